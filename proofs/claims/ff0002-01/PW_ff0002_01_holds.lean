import PyProof.Rows.All
import OpenK.KWith
import KE.BytesK
import KE.BitLaws
import KE.KBits
import KE.KItem
import KE.RegKUnpack
import KE.KEqDeep
import KE.KSlice
import KE.KBytesWalk
import KE.KCat
import KE.RegKLenAny
import OpenK.KRaise
import OpenK.KInv2
import Lean
import PySem.Challenge.RW_ff0002_01
open PySem PySem.W PyProof.Rows PySem.Calls Builtin
set_option Elab.async false
set_option maxRecDepth 100000
set_option maxHeartbeats 8000000
set_option linter.unusedVariables false
set_option linter.unusedSimpArgs false
namespace Mine
set_option Elab.async true in
theorem lawSaid (h : PySem.Challenge.rw_ff0002_01.row.wellSaid = true → PySem.Challenge.rw_ff0002_01.row.Holds) : PySem.Challenge.rw_ff0002_01.Holds := by
  o_law
  exact h (by assumption)
abbrev prg : Program := PySem.Challenge.rw_ff0002_01.row.prog
def nth : List Stmt → Nat → Stmt
  | [], _ => .Pass ⟨0, 0, 0, 0⟩
  | s :: _, 0 => s
  | _ :: r, n + 1 => nth r n
def inner : Stmt → List Stmt
  | .ClassDef _ _ _ b _ _ _ _ _ _ _ => b
  | .FunctionDef _ _ b _ _ _ _ _ _ _ => b
  | _ => []
def parm : Stmt → Arguments
  | .FunctionDef _ a _ _ _ _ _ _ _ _ => a
  | _ => ⟨[], [], none, [], [], none, []⟩
def scop : Stmt → Scope
  | .FunctionDef _ _ _ _ _ _ s _ _ _ => s
  | _ => ⟨.module, [], false, false, []⟩
def ob3 (P : Params) : Obj := ⟨(.type "dict"), none, .dict [⟨PyData.keyHash P (Str.ofString "__name__"), .str (Str.ofString "__name__") 165, (.str (Str.ofString "law_ff0002_01") 1889)⟩,
    ⟨PyData.keyHash P (Str.ofString "__doc__"), .str (Str.ofString "__doc__") 166, .none⟩,
    ⟨PyData.keyHash P (Str.ofString "__package__"), .str (Str.ofString "__package__") 167, .none⟩,
    ⟨PyData.keyHash P (Str.ofString "__loader__"), .str (Str.ofString "__loader__") 168, (.builtin "__main__.__loader__#opaque")⟩,
    ⟨PyData.keyHash P (Str.ofString "__spec__"), .str (Str.ofString "__spec__") 169, .none⟩,
    ⟨PyData.keyHash P (Str.ofString "__annotations__"), .str (Str.ofString "__annotations__") 170, (.ref 6)⟩,
    ⟨PyData.keyHash P (Str.ofString "__builtins__"), .str (Str.ofString "__builtins__") 171, (.ref 4)⟩,
    ⟨PyData.keyHash P (Str.ofString "__file__"), .str (Str.ofString "__file__") 173, (.str (Str.ofString "/claim/cut.py") 172)⟩,
    ⟨PyData.keyHash P (Str.ofString "__cached__"), .str (Str.ofString "__cached__") 174, .none⟩,
    ⟨PyData.keyHash P (Str.ofString "_wall"), .str (Str.ofString "_wall") 193, (.ref 21)⟩,
    ⟨PyData.keyHash P (Str.ofString "_OWN_NAMES"), .str (Str.ofString "_OWN_NAMES") 201, (.ref 22)⟩,
    ⟨PyData.keyHash P (Str.ofString "mappingproxy"), .str (Str.ofString "mappingproxy") 409, (.ref 203)⟩,
    ⟨PyData.keyHash P (Str.ofString "_MEMBERS_VIEW"), .str (Str.ofString "_MEMBERS_VIEW") 410, (.ref 203)⟩,
    ⟨PyData.keyHash P (Str.ofString "EnumType"), .str (Str.ofString "EnumType") 670, (.ref 419)⟩,
    ⟨PyData.keyHash P (Str.ofString "_EnumField"), .str (Str.ofString "_EnumField") 725, (.ref 461)⟩,
    ⟨PyData.keyHash P (Str.ofString "Enum"), .str (Str.ofString "Enum") 912, (.ref 585)⟩,
    ⟨PyData.keyHash P (Str.ofString "AddressingMode"), .str (Str.ofString "AddressingMode") 982, (.ref 618)⟩,
    ⟨PyData.keyHash P (Str.ofString "_lay_AddressingMode"), .str (Str.ofString "_lay_AddressingMode") 1002, (.ref 631)⟩,
    ⟨PyData.keyHash P (Str.ofString "TargetAddressType"), .str (Str.ofString "TargetAddressType") 1265, (.ref 702)⟩,
    ⟨PyData.keyHash P (Str.ofString "_lay_TargetAddressType"), .str (Str.ofString "_lay_TargetAddressType") 1275, (.ref 715)⟩,
    ⟨PyData.keyHash P (Str.ofString "AbstractAddress"), .str (Str.ofString "AbstractAddress") 1486, (.ref 850)⟩,
    ⟨PyData.keyHash P (Str.ofString "Address"), .str (Str.ofString "Address") 1713, (.ref 1036)⟩,
    ⟨PyData.keyHash P (Str.ofString "AsymmetricAddress"), .str (Str.ofString "AsymmetricAddress") 1829, (.ref 1141)⟩,
    ⟨PyData.keyHash P (Str.ofString "CanMessage"), .str (Str.ofString "CanMessage") 1888, (.ref 1163)⟩,
    ⟨PyData.keyHash P (Str.ofString "_law_drawn"), .str (Str.ofString "_law_drawn") 1900, (.ref 1178)⟩,
    ⟨PyData.keyHash P (Str.ofString "_law_pair"), .str (Str.ofString "_law_pair") 1916, (.ref 1185)⟩,
    ⟨PyData.keyHash P (Str.ofString "law"), .str (Str.ofString "law") 1951, (.ref 1192)⟩].toArray 27, [].toArray⟩
def ob2 (_ : Params) : Obj := ⟨.none, none, .dict [].toArray 0, [].toArray⟩
def ob1036 (_ : Params) : Obj := ⟨(.type "type"), none, .cls { name := (Str.ofString "Address"), bases := [(.ref 850)], mro := [(.ref 1036), (.ref 850), (.type "object")], ns := 1035, qualname := (Str.ofString "Address"), hasDict := true, slotNames := [], subclasses := [], abstract := false, collection := none, hasDel := false }, [(some (.ref 855)), none, (some (.str (Str.ofString "Address") 1487)), (some (.str (Str.ofString "Address") 1495)), (some (.builtin "object.__new__")), (some (.bool true))].toArray⟩
def ob1035 (P : Params) : Obj := ⟨(.type "dict"), none, .dict [⟨PyData.keyHash P (Str.ofString "__module__"), .str (Str.ofString "__module__") 1494, (.str (Str.ofString "isotp.address") 913)⟩,
    ⟨PyData.keyHash P (Str.ofString "__firstlineno__"), .str (Str.ofString "__firstlineno__") 1498, (.int (456) 1497)⟩,
    ⟨PyData.keyHash P (Str.ofString "__init__"), .str (Str.ofString "__init__") 1516, (.ref 869)⟩,
    ⟨PyData.keyHash P (Str.ofString "validate"), .str (Str.ofString "validate") 1523, (.ref 876)⟩,
    ⟨PyData.keyHash P (Str.ofString "is_partial_address"), .str (Str.ofString "is_partial_address") 1530, (.ref 883)⟩,
    ⟨PyData.keyHash P (Str.ofString "is_tx_only"), .str (Str.ofString "is_tx_only") 1537, (.ref 890)⟩,
    ⟨PyData.keyHash P (Str.ofString "is_rx_only"), .str (Str.ofString "is_rx_only") 1544, (.ref 897)⟩,
    ⟨PyData.keyHash P (Str.ofString "get_rx_prefix_size"), .str (Str.ofString "get_rx_prefix_size") 1551, (.ref 904)⟩,
    ⟨PyData.keyHash P (Str.ofString "get_tx_payload_prefix"), .str (Str.ofString "get_tx_payload_prefix") 1558, (.ref 911)⟩,
    ⟨PyData.keyHash P (Str.ofString "is_for_me"), .str (Str.ofString "is_for_me") 1566, (.ref 918)⟩,
    ⟨PyData.keyHash P (Str.ofString "get_tx_arbitration_id"), .str (Str.ofString "get_tx_arbitration_id") 1575, (.ref 926)⟩,
    ⟨PyData.keyHash P (Str.ofString "get_rx_arbitration_id"), .str (Str.ofString "get_rx_arbitration_id") 1584, (.ref 934)⟩,
    ⟨PyData.keyHash P (Str.ofString "_get_tx_arbitration_id"), .str (Str.ofString "_get_tx_arbitration_id") 1593, (.ref 941)⟩,
    ⟨PyData.keyHash P (Str.ofString "_get_rx_arbitration_id"), .str (Str.ofString "_get_rx_arbitration_id") 1603, (.ref 949)⟩,
    ⟨PyData.keyHash P (Str.ofString "_is_for_me_normal"), .str (Str.ofString "_is_for_me_normal") 1611, (.ref 956)⟩,
    ⟨PyData.keyHash P (Str.ofString "_is_for_me_extended"), .str (Str.ofString "_is_for_me_extended") 1619, (.ref 963)⟩,
    ⟨PyData.keyHash P (Str.ofString "_is_for_me_normal_fixed"), .str (Str.ofString "_is_for_me_normal_fixed") 1627, (.ref 970)⟩,
    ⟨PyData.keyHash P (Str.ofString "_is_for_me_mixed_11bits"), .str (Str.ofString "_is_for_me_mixed_11bits") 1635, (.ref 977)⟩,
    ⟨PyData.keyHash P (Str.ofString "_is_for_me_mixed_29bits"), .str (Str.ofString "_is_for_me_mixed_29bits") 1643, (.ref 984)⟩,
    ⟨PyData.keyHash P (Str.ofString "_requires_extension_byte"), .str (Str.ofString "_requires_extension_byte") 1650, (.ref 991)⟩,
    ⟨PyData.keyHash P (Str.ofString "requires_rx_extension_byte"), .str (Str.ofString "requires_rx_extension_byte") 1657, (.ref 998)⟩,
    ⟨PyData.keyHash P (Str.ofString "requires_tx_extension_byte"), .str (Str.ofString "requires_tx_extension_byte") 1664, (.ref 1005)⟩,
    ⟨PyData.keyHash P (Str.ofString "get_tx_extension_byte"), .str (Str.ofString "get_tx_extension_byte") 1671, (.ref 1012)⟩,
    ⟨PyData.keyHash P (Str.ofString "get_rx_extension_byte"), .str (Str.ofString "get_rx_extension_byte") 1678, (.ref 1019)⟩,
    ⟨PyData.keyHash P (Str.ofString "is_tx_29bits"), .str (Str.ofString "is_tx_29bits") 1685, (.ref 1026)⟩,
    ⟨PyData.keyHash P (Str.ofString "is_rx_29bits"), .str (Str.ofString "is_rx_29bits") 1692, (.ref 1033)⟩,
    ⟨PyData.keyHash P (Str.ofString "__static_attributes__"), .str (Str.ofString "__static_attributes__") 1710, (.ref 1034)⟩,
    ⟨PyData.keyHash P (Str.ofString "__doc__"), .str (Str.ofString "__doc__") 1711, .none⟩].toArray 2, [].toArray⟩
def ob1141 (_ : Params) : Obj := ⟨(.type "type"), none, .cls { name := (Str.ofString "AsymmetricAddress"), bases := [(.ref 850)], mro := [(.ref 1141), (.ref 850), (.type "object")], ns := 1140, qualname := (Str.ofString "AsymmetricAddress"), hasDict := true, slotNames := [], subclasses := [], abstract := false, collection := none, hasDel := false }, [(some (.ref 1039)), none, (some (.str (Str.ofString "AsymmetricAddress") 1714)), (some (.str (Str.ofString "AsymmetricAddress") 1722)), (some (.builtin "object.__new__")), (some (.bool true))].toArray⟩
def ob1140 (P : Params) : Obj := ⟨(.type "dict"), none, .dict [⟨PyData.keyHash P (Str.ofString "__module__"), .str (Str.ofString "__module__") 1721, (.str (Str.ofString "isotp.address") 913)⟩,
    ⟨PyData.keyHash P (Str.ofString "__firstlineno__"), .str (Str.ofString "__firstlineno__") 1725, (.int (681) 1724)⟩,
    ⟨PyData.keyHash P (Str.ofString "__init__"), .str (Str.ofString "__init__") 1734, (.ref 1052)⟩,
    ⟨PyData.keyHash P (Str.ofString "get_tx_extension_byte"), .str (Str.ofString "get_tx_extension_byte") 1741, (.ref 1059)⟩,
    ⟨PyData.keyHash P (Str.ofString "get_rx_extension_byte"), .str (Str.ofString "get_rx_extension_byte") 1748, (.ref 1066)⟩,
    ⟨PyData.keyHash P (Str.ofString "is_for_me"), .str (Str.ofString "is_for_me") 1756, (.ref 1073)⟩,
    ⟨PyData.keyHash P (Str.ofString "get_tx_arbitration_id"), .str (Str.ofString "get_tx_arbitration_id") 1765, (.ref 1081)⟩,
    ⟨PyData.keyHash P (Str.ofString "get_rx_arbitration_id"), .str (Str.ofString "get_rx_arbitration_id") 1774, (.ref 1089)⟩,
    ⟨PyData.keyHash P (Str.ofString "is_tx_29bits"), .str (Str.ofString "is_tx_29bits") 1781, (.ref 1096)⟩,
    ⟨PyData.keyHash P (Str.ofString "is_rx_29bits"), .str (Str.ofString "is_rx_29bits") 1788, (.ref 1103)⟩,
    ⟨PyData.keyHash P (Str.ofString "requires_tx_extension_byte"), .str (Str.ofString "requires_tx_extension_byte") 1795, (.ref 1110)⟩,
    ⟨PyData.keyHash P (Str.ofString "requires_rx_extension_byte"), .str (Str.ofString "requires_rx_extension_byte") 1802, (.ref 1117)⟩,
    ⟨PyData.keyHash P (Str.ofString "get_rx_prefix_size"), .str (Str.ofString "get_rx_prefix_size") 1809, (.ref 1124)⟩,
    ⟨PyData.keyHash P (Str.ofString "get_tx_payload_prefix"), .str (Str.ofString "get_tx_payload_prefix") 1816, (.ref 1131)⟩,
    ⟨PyData.keyHash P (Str.ofString "is_partial_address"), .str (Str.ofString "is_partial_address") 1823, (.ref 1138)⟩,
    ⟨PyData.keyHash P (Str.ofString "__static_attributes__"), .str (Str.ofString "__static_attributes__") 1826, (.ref 1139)⟩,
    ⟨PyData.keyHash P (Str.ofString "__doc__"), .str (Str.ofString "__doc__") 1827, .none⟩].toArray 2, [].toArray⟩
def ob1163 (_ : Params) : Obj := ⟨(.type "type"), none, .cls { name := (Str.ofString "CanMessage"), bases := [(.type "object")], mro := [(.ref 1163), (.type "object")], ns := 1162, qualname := (Str.ofString "CanMessage"), hasDict := false, slotNames := [(Str.ofString "arbitration_id"), (Str.ofString "bitrate_switch"), (Str.ofString "data"), (Str.ofString "dlc"), (Str.ofString "is_extended_id"), (Str.ofString "is_fd")], subclasses := [], abstract := false, collection := none, hasDel := false }, [none, none, (some (.str (Str.ofString "CanMessage") 1832)), (some (.str (Str.ofString "CanMessage") 1840)), (some (.builtin "object.__new__")), (some (.bool false))].toArray⟩
def ob1162 (P : Params) : Obj := ⟨(.type "dict"), none, .dict [⟨PyData.keyHash P (Str.ofString "__module__"), .str (Str.ofString "__module__") 1839, (.str (Str.ofString "isotp.can_message") 1830)⟩,
    ⟨PyData.keyHash P (Str.ofString "__firstlineno__"), .str (Str.ofString "__firstlineno__") 1843, (.int (731) 1842)⟩,
    ⟨PyData.keyHash P (Str.ofString "__slots__"), .str (Str.ofString "__slots__") 1850, (.ref 1151)⟩,
    ⟨PyData.keyHash P (Str.ofString "__init__"), .str (Str.ofString "__init__") 1866, (.ref 1159)⟩,
    ⟨PyData.keyHash P (Str.ofString "__static_attributes__"), .str (Str.ofString "__static_attributes__") 1873, (.ref 1160)⟩,
    ⟨PyData.keyHash P (Str.ofString "arbitration_id"), .str (Str.ofString "arbitration_id") 1875, (.ref 1164)⟩,
    ⟨PyData.keyHash P (Str.ofString "bitrate_switch"), .str (Str.ofString "bitrate_switch") 1877, (.ref 1165)⟩,
    ⟨PyData.keyHash P (Str.ofString "data"), .str (Str.ofString "data") 1879, (.ref 1166)⟩,
    ⟨PyData.keyHash P (Str.ofString "dlc"), .str (Str.ofString "dlc") 1881, (.ref 1167)⟩,
    ⟨PyData.keyHash P (Str.ofString "is_extended_id"), .str (Str.ofString "is_extended_id") 1883, (.ref 1168)⟩,
    ⟨PyData.keyHash P (Str.ofString "is_fd"), .str (Str.ofString "is_fd") 1885, (.ref 1169)⟩,
    ⟨PyData.keyHash P (Str.ofString "__doc__"), .str (Str.ofString "__doc__") 1886, .none⟩].toArray 8, [].toArray⟩
def ob1164 (_ : Params) : Obj := ⟨(.type "member_descriptor"), none, .fields [(.str (Str.ofString "arbitration_id") 1874), (.ref 1163), (.builtin "proto.slot"), (.builtin "proto.slot#set"), (.int (5) 0)].toArray, [].toArray⟩
def ob1165 (_ : Params) : Obj := ⟨(.type "member_descriptor"), none, .fields [(.str (Str.ofString "bitrate_switch") 1876), (.ref 1163), (.builtin "proto.slot"), (.builtin "proto.slot#set"), (.int (4) 0)].toArray, [].toArray⟩
def ob1166 (_ : Params) : Obj := ⟨(.type "member_descriptor"), none, .fields [(.str (Str.ofString "data") 1878), (.ref 1163), (.builtin "proto.slot"), (.builtin "proto.slot#set"), (.int (3) 0)].toArray, [].toArray⟩
def ob1167 (_ : Params) : Obj := ⟨(.type "member_descriptor"), none, .fields [(.str (Str.ofString "dlc") 1880), (.ref 1163), (.builtin "proto.slot"), (.builtin "proto.slot#set"), (.int (2) 0)].toArray, [].toArray⟩
def ob1168 (_ : Params) : Obj := ⟨(.type "member_descriptor"), none, .fields [(.str (Str.ofString "is_extended_id") 1882), (.ref 1163), (.builtin "proto.slot"), (.builtin "proto.slot#set"), (.int (1) 0)].toArray, [].toArray⟩
def ob1169 (_ : Params) : Obj := ⟨(.type "member_descriptor"), none, .fields [(.str (Str.ofString "is_fd") 1884), (.ref 1163), (.builtin "proto.slot"), (.builtin "proto.slot#set"), (.int (0) 0)].toArray, [].toArray⟩
def ob618 (_ : Params) : Obj := ⟨(.ref 419), none, .cls { name := (Str.ofString "AddressingMode"), bases := [(.ref 585)], mro := [(.ref 618), (.ref 585), (.type "object")], ns := 617, qualname := (Str.ofString "AddressingMode"), hasDict := true, slotNames := [], subclasses := [], abstract := false, collection := none, hasDel := false }, [(some (.ref 595)), none, (some (.str (Str.ofString "AddressingMode") 915)), (some (.str (Str.ofString "AddressingMode") 923)), (some .none), (some (.bool true))].toArray⟩
def ob617 (P : Params) : Obj := ⟨(.type "dict"), none, .dict [⟨PyData.keyHash P (Str.ofString "__module__"), .str (Str.ofString "__module__") 922, (.str (Str.ofString "isotp.address") 913)⟩,
    ⟨PyData.keyHash P (Str.ofString "__firstlineno__"), .str (Str.ofString "__firstlineno__") 926, (.int (329) 925)⟩,
    ⟨PyData.keyHash P (Str.ofString "_written_out_"), .str (Str.ofString "_written_out_") 928, (.int (0) 976)⟩,
    ⟨PyData.keyHash P (Str.ofString "_member_names_"), .str (Str.ofString "_member_names_") 936, (.ref 602)⟩,
    ⟨PyData.keyHash P (Str.ofString "_value_repr_"), .str (Str.ofString "_value_repr_") 938, .none⟩,
    ⟨PyData.keyHash P (Str.ofString "get_name"), .str (Str.ofString "get_name") 958, (.ref 611)⟩,
    ⟨PyData.keyHash P (Str.ofString "__static_attributes__"), .str (Str.ofString "__static_attributes__") 959, (.ref 613)⟩,
    ⟨PyData.keyHash P (Str.ofString "__doc__"), .str (Str.ofString "__doc__") 969, .none⟩,
    ⟨PyData.keyHash P (Str.ofString "__new__"), .str (Str.ofString "__new__") 1023, (.ref 486)⟩,
    ⟨PyData.keyHash P (Str.ofString "Normal_11bits"), .str (Str.ofString "Normal_11bits") 1129, (.ref 643)⟩,
    ⟨PyData.keyHash P (Str.ofString "Normal_29bits"), .str (Str.ofString "Normal_29bits") 1137, (.ref 645)⟩,
    ⟨PyData.keyHash P (Str.ofString "NormalFixed_29bits"), .str (Str.ofString "NormalFixed_29bits") 1145, (.ref 647)⟩,
    ⟨PyData.keyHash P (Str.ofString "Extended_11bits"), .str (Str.ofString "Extended_11bits") 1153, (.ref 649)⟩,
    ⟨PyData.keyHash P (Str.ofString "Extended_29bits"), .str (Str.ofString "Extended_29bits") 1161, (.ref 651)⟩,
    ⟨PyData.keyHash P (Str.ofString "Mixed_11bits"), .str (Str.ofString "Mixed_11bits") 1169, (.ref 653)⟩,
    ⟨PyData.keyHash P (Str.ofString "Mixed_29bits"), .str (Str.ofString "Mixed_29bits") 1177, (.ref 655)⟩,
    ⟨PyData.keyHash P (Str.ofString "_member_map_"), .str (Str.ofString "_member_map_") 1199, (.ref 677)⟩,
    ⟨PyData.keyHash P (Str.ofString "_value2member_map_"), .str (Str.ofString "_value2member_map_") 1214, (.ref 681)⟩,
    ⟨PyData.keyHash P (Str.ofString "_hashable_values_"), .str (Str.ofString "_hashable_values_") 1222, (.ref 685)⟩].toArray 13, [].toArray⟩
def ob643 (_ : Params) : Obj := ⟨(.ref 618), (some 642), .plain, [].toArray⟩
def ob642 (P : Params) : Obj := ⟨(.type "dict"), none, .dict [⟨PyData.keyHash P (Str.ofString "_value_"), .str (Str.ofString "_value_") 1029, (.int (0) 1024)⟩,
    ⟨PyData.keyHash P (Str.ofString "_name_"), .str (Str.ofString "_name_") 1032, (.str (Str.ofString "Normal_11bits") 1030)⟩,
    ⟨PyData.keyHash P (Str.ofString "__objclass__"), .str (Str.ofString "__objclass__") 1034, (.ref 618)⟩,
    ⟨PyData.keyHash P (Str.ofString "_sort_order_"), .str (Str.ofString "_sort_order_") 1037, (.int (0) 1035)⟩].toArray 4, [].toArray⟩
def ob645 (_ : Params) : Obj := ⟨(.ref 618), (some 644), .plain, [].toArray⟩
def ob644 (P : Params) : Obj := ⟨(.type "dict"), none, .dict [⟨PyData.keyHash P (Str.ofString "_value_"), .str (Str.ofString "_value_") 1043, (.int (1) 1038)⟩,
    ⟨PyData.keyHash P (Str.ofString "_name_"), .str (Str.ofString "_name_") 1046, (.str (Str.ofString "Normal_29bits") 1044)⟩,
    ⟨PyData.keyHash P (Str.ofString "__objclass__"), .str (Str.ofString "__objclass__") 1048, (.ref 618)⟩,
    ⟨PyData.keyHash P (Str.ofString "_sort_order_"), .str (Str.ofString "_sort_order_") 1051, (.int (1) 1049)⟩].toArray 4, [].toArray⟩
def ob647 (_ : Params) : Obj := ⟨(.ref 618), (some 646), .plain, [].toArray⟩
def ob646 (P : Params) : Obj := ⟨(.type "dict"), none, .dict [⟨PyData.keyHash P (Str.ofString "_value_"), .str (Str.ofString "_value_") 1057, (.int (2) 1052)⟩,
    ⟨PyData.keyHash P (Str.ofString "_name_"), .str (Str.ofString "_name_") 1060, (.str (Str.ofString "NormalFixed_29bits") 1058)⟩,
    ⟨PyData.keyHash P (Str.ofString "__objclass__"), .str (Str.ofString "__objclass__") 1062, (.ref 618)⟩,
    ⟨PyData.keyHash P (Str.ofString "_sort_order_"), .str (Str.ofString "_sort_order_") 1065, (.int (2) 1063)⟩].toArray 4, [].toArray⟩
def ob649 (_ : Params) : Obj := ⟨(.ref 618), (some 648), .plain, [].toArray⟩
def ob648 (P : Params) : Obj := ⟨(.type "dict"), none, .dict [⟨PyData.keyHash P (Str.ofString "_value_"), .str (Str.ofString "_value_") 1071, (.int (3) 1066)⟩,
    ⟨PyData.keyHash P (Str.ofString "_name_"), .str (Str.ofString "_name_") 1074, (.str (Str.ofString "Extended_11bits") 1072)⟩,
    ⟨PyData.keyHash P (Str.ofString "__objclass__"), .str (Str.ofString "__objclass__") 1076, (.ref 618)⟩,
    ⟨PyData.keyHash P (Str.ofString "_sort_order_"), .str (Str.ofString "_sort_order_") 1079, (.int (3) 1077)⟩].toArray 4, [].toArray⟩
def ob651 (_ : Params) : Obj := ⟨(.ref 618), (some 650), .plain, [].toArray⟩
def ob650 (P : Params) : Obj := ⟨(.type "dict"), none, .dict [⟨PyData.keyHash P (Str.ofString "_value_"), .str (Str.ofString "_value_") 1085, (.int (4) 1080)⟩,
    ⟨PyData.keyHash P (Str.ofString "_name_"), .str (Str.ofString "_name_") 1088, (.str (Str.ofString "Extended_29bits") 1086)⟩,
    ⟨PyData.keyHash P (Str.ofString "__objclass__"), .str (Str.ofString "__objclass__") 1090, (.ref 618)⟩,
    ⟨PyData.keyHash P (Str.ofString "_sort_order_"), .str (Str.ofString "_sort_order_") 1093, (.int (4) 1091)⟩].toArray 4, [].toArray⟩
def ob653 (_ : Params) : Obj := ⟨(.ref 618), (some 652), .plain, [].toArray⟩
def ob652 (P : Params) : Obj := ⟨(.type "dict"), none, .dict [⟨PyData.keyHash P (Str.ofString "_value_"), .str (Str.ofString "_value_") 1099, (.int (5) 1094)⟩,
    ⟨PyData.keyHash P (Str.ofString "_name_"), .str (Str.ofString "_name_") 1102, (.str (Str.ofString "Mixed_11bits") 1100)⟩,
    ⟨PyData.keyHash P (Str.ofString "__objclass__"), .str (Str.ofString "__objclass__") 1104, (.ref 618)⟩,
    ⟨PyData.keyHash P (Str.ofString "_sort_order_"), .str (Str.ofString "_sort_order_") 1107, (.int (5) 1105)⟩].toArray 4, [].toArray⟩
def ob655 (_ : Params) : Obj := ⟨(.ref 618), (some 654), .plain, [].toArray⟩
def ob654 (P : Params) : Obj := ⟨(.type "dict"), none, .dict [⟨PyData.keyHash P (Str.ofString "_value_"), .str (Str.ofString "_value_") 1113, (.int (6) 1108)⟩,
    ⟨PyData.keyHash P (Str.ofString "_name_"), .str (Str.ofString "_name_") 1116, (.str (Str.ofString "Mixed_29bits") 1114)⟩,
    ⟨PyData.keyHash P (Str.ofString "__objclass__"), .str (Str.ofString "__objclass__") 1118, (.ref 618)⟩,
    ⟨PyData.keyHash P (Str.ofString "_sort_order_"), .str (Str.ofString "_sort_order_") 1121, (.int (6) 1119)⟩].toArray 4, [].toArray⟩
def ob702 (_ : Params) : Obj := ⟨(.ref 419), none, .cls { name := (Str.ofString "TargetAddressType"), bases := [(.ref 585)], mro := [(.ref 702), (.ref 585), (.type "object")], ns := 701, qualname := (Str.ofString "TargetAddressType"), hasDict := true, slotNames := [], subclasses := [], abstract := false, collection := none, hasDel := false }, [(some (.ref 689)), none, (some (.str (Str.ofString "TargetAddressType") 1223)), (some (.str (Str.ofString "TargetAddressType") 1231)), (some .none), (some (.bool true))].toArray⟩
def ob701 (P : Params) : Obj := ⟨(.type "dict"), none, .dict [⟨PyData.keyHash P (Str.ofString "__module__"), .str (Str.ofString "__module__") 1230, (.str (Str.ofString "isotp.address") 913)⟩,
    ⟨PyData.keyHash P (Str.ofString "__firstlineno__"), .str (Str.ofString "__firstlineno__") 1234, (.int (392) 1233)⟩,
    ⟨PyData.keyHash P (Str.ofString "_written_out_"), .str (Str.ofString "_written_out_") 1236, (.int (0) 1259)⟩,
    ⟨PyData.keyHash P (Str.ofString "_member_names_"), .str (Str.ofString "_member_names_") 1239, (.ref 696)⟩,
    ⟨PyData.keyHash P (Str.ofString "_value_repr_"), .str (Str.ofString "_value_repr_") 1241, .none⟩,
    ⟨PyData.keyHash P (Str.ofString "__static_attributes__"), .str (Str.ofString "__static_attributes__") 1242, (.ref 697)⟩,
    ⟨PyData.keyHash P (Str.ofString "__doc__"), .str (Str.ofString "__doc__") 1252, .none⟩,
    ⟨PyData.keyHash P (Str.ofString "__new__"), .str (Str.ofString "__new__") 1296, (.ref 486)⟩,
    ⟨PyData.keyHash P (Str.ofString "Physical"), .str (Str.ofString "Physical") 1332, (.ref 727)⟩,
    ⟨PyData.keyHash P (Str.ofString "Functional"), .str (Str.ofString "Functional") 1340, (.ref 729)⟩,
    ⟨PyData.keyHash P (Str.ofString "_member_map_"), .str (Str.ofString "_member_map_") 1352, (.ref 736)⟩,
    ⟨PyData.keyHash P (Str.ofString "_value2member_map_"), .str (Str.ofString "_value2member_map_") 1362, (.ref 740)⟩,
    ⟨PyData.keyHash P (Str.ofString "_hashable_values_"), .str (Str.ofString "_hashable_values_") 1370, (.ref 744)⟩].toArray 8, [].toArray⟩
def ob727 (_ : Params) : Obj := ⟨(.ref 702), (some 726), .plain, [].toArray⟩
def ob726 (P : Params) : Obj := ⟨(.type "dict"), none, .dict [⟨PyData.keyHash P (Str.ofString "_value_"), .str (Str.ofString "_value_") 1302, (.int (0) 1297)⟩,
    ⟨PyData.keyHash P (Str.ofString "_name_"), .str (Str.ofString "_name_") 1305, (.str (Str.ofString "Physical") 1303)⟩,
    ⟨PyData.keyHash P (Str.ofString "__objclass__"), .str (Str.ofString "__objclass__") 1307, (.ref 702)⟩,
    ⟨PyData.keyHash P (Str.ofString "_sort_order_"), .str (Str.ofString "_sort_order_") 1310, (.int (0) 1308)⟩].toArray 4, [].toArray⟩
def ob729 (_ : Params) : Obj := ⟨(.ref 702), (some 728), .plain, [].toArray⟩
def ob728 (P : Params) : Obj := ⟨(.type "dict"), none, .dict [⟨PyData.keyHash P (Str.ofString "_value_"), .str (Str.ofString "_value_") 1316, (.int (1) 1311)⟩,
    ⟨PyData.keyHash P (Str.ofString "_name_"), .str (Str.ofString "_name_") 1319, (.str (Str.ofString "Functional") 1317)⟩,
    ⟨PyData.keyHash P (Str.ofString "__objclass__"), .str (Str.ofString "__objclass__") 1321, (.ref 702)⟩,
    ⟨PyData.keyHash P (Str.ofString "_sort_order_"), .str (Str.ofString "_sort_order_") 1324, (.int (1) 1322)⟩].toArray 4, [].toArray⟩
def ob850 (_ : Params) : Obj := ⟨(.type "type"), none, .cls { name := (Str.ofString "AbstractAddress"), bases := [(.type "object")], mro := [(.ref 850), (.type "object")], ns := 849, qualname := (Str.ofString "AbstractAddress"), hasDict := true, slotNames := [], subclasses := [(.ref 1036), (.ref 1141)], abstract := false, collection := none, hasDel := false }, [none, none, (some (.str (Str.ofString "AbstractAddress") 1371)), (some (.str (Str.ofString "AbstractAddress") 1379)), (some (.builtin "object.__new__")), (some (.bool true))].toArray⟩
def ob849 (P : Params) : Obj := ⟨(.type "dict"), none, .dict [⟨PyData.keyHash P (Str.ofString "__module__"), .str (Str.ofString "__module__") 1378, (.str (Str.ofString "isotp.address") 913)⟩,
    ⟨PyData.keyHash P (Str.ofString "__firstlineno__"), .str (Str.ofString "__firstlineno__") 1382, (.int (416) 1381)⟩,
    ⟨PyData.keyHash P (Str.ofString "get_tx_arbitration_id"), .str (Str.ofString "get_tx_arbitration_id") 1391, (.ref 762)⟩,
    ⟨PyData.keyHash P (Str.ofString "get_rx_arbitration_id"), .str (Str.ofString "get_rx_arbitration_id") 1400, (.ref 770)⟩,
    ⟨PyData.keyHash P (Str.ofString "requires_tx_extension_byte"), .str (Str.ofString "requires_tx_extension_byte") 1407, (.ref 777)⟩,
    ⟨PyData.keyHash P (Str.ofString "requires_rx_extension_byte"), .str (Str.ofString "requires_rx_extension_byte") 1414, (.ref 784)⟩,
    ⟨PyData.keyHash P (Str.ofString "get_tx_extension_byte"), .str (Str.ofString "get_tx_extension_byte") 1421, (.ref 791)⟩,
    ⟨PyData.keyHash P (Str.ofString "get_rx_extension_byte"), .str (Str.ofString "get_rx_extension_byte") 1428, (.ref 798)⟩,
    ⟨PyData.keyHash P (Str.ofString "is_tx_29bits"), .str (Str.ofString "is_tx_29bits") 1435, (.ref 805)⟩,
    ⟨PyData.keyHash P (Str.ofString "is_rx_29bits"), .str (Str.ofString "is_rx_29bits") 1442, (.ref 812)⟩,
    ⟨PyData.keyHash P (Str.ofString "is_for_me"), .str (Str.ofString "is_for_me") 1450, (.ref 819)⟩,
    ⟨PyData.keyHash P (Str.ofString "get_rx_prefix_size"), .str (Str.ofString "get_rx_prefix_size") 1457, (.ref 826)⟩,
    ⟨PyData.keyHash P (Str.ofString "get_tx_payload_prefix"), .str (Str.ofString "get_tx_payload_prefix") 1464, (.ref 833)⟩,
    ⟨PyData.keyHash P (Str.ofString "is_partial_address"), .str (Str.ofString "is_partial_address") 1471, (.ref 840)⟩,
    ⟨PyData.keyHash P (Str.ofString "get_content_str"), .str (Str.ofString "get_content_str") 1478, (.ref 847)⟩,
    ⟨PyData.keyHash P (Str.ofString "__static_attributes__"), .str (Str.ofString "__static_attributes__") 1479, (.ref 848)⟩,
    ⟨PyData.keyHash P (Str.ofString "__dict__"), .str (Str.ofString "__dict__") 1481, (.ref 851)⟩,
    ⟨PyData.keyHash P (Str.ofString "__weakref__"), .str (Str.ofString "__weakref__") 1483, (.ref 852)⟩,
    ⟨PyData.keyHash P (Str.ofString "__doc__"), .str (Str.ofString "__doc__") 1484, .none⟩].toArray 4, [].toArray⟩
def ob585 (_ : Params) : Obj := ⟨(.ref 419), none, .cls { name := (Str.ofString "Enum"), bases := [(.type "object")], mro := [(.ref 585), (.type "object")], ns := 584, qualname := (Str.ofString "Enum"), hasDict := true, slotNames := [], subclasses := [(.ref 618), (.ref 702)], abstract := false, collection := none, hasDel := false }, [none, none, (some (.str (Str.ofString "Enum") 726)), (some (.str (Str.ofString "Enum") 734)), (some .none), (some (.bool true))].toArray⟩
def ob584 (P : Params) : Obj := ⟨(.type "dict"), none, .dict [⟨PyData.keyHash P (Str.ofString "__module__"), .str (Str.ofString "__module__") 733, (.str (Str.ofString "enum") 738)⟩,
    ⟨PyData.keyHash P (Str.ofString "__firstlineno__"), .str (Str.ofString "__firstlineno__") 737, (.int (235) 736)⟩,
    ⟨PyData.keyHash P (Str.ofString "_written_out_"), .str (Str.ofString "_written_out_") 741, (.int (0) 906)⟩,
    ⟨PyData.keyHash P (Str.ofString "_member_names_"), .str (Str.ofString "_member_names_") 742, (.ref 473)⟩,
    ⟨PyData.keyHash P (Str.ofString "_member_map_"), .str (Str.ofString "_member_map_") 743, (.ref 474)⟩,
    ⟨PyData.keyHash P (Str.ofString "_value2member_map_"), .str (Str.ofString "_value2member_map_") 744, (.ref 475)⟩,
    ⟨PyData.keyHash P (Str.ofString "_hashable_values_"), .str (Str.ofString "_hashable_values_") 745, (.ref 476)⟩,
    ⟨PyData.keyHash P (Str.ofString "_unhashable_values_"), .str (Str.ofString "_unhashable_values_") 746, (.ref 477)⟩,
    ⟨PyData.keyHash P (Str.ofString "_unhashable_values_map_"), .str (Str.ofString "_unhashable_values_map_") 747, (.ref 478)⟩,
    ⟨PyData.keyHash P (Str.ofString "_members_"), .str (Str.ofString "_members_") 748, (.ref 479)⟩,
    ⟨PyData.keyHash P (Str.ofString "_value_repr_"), .str (Str.ofString "_value_repr_") 749, .none⟩,
    ⟨PyData.keyHash P (Str.ofString "_is_flag_"), .str (Str.ofString "_is_flag_") 750, (.bool false)⟩,
    ⟨PyData.keyHash P (Str.ofString "_making_"), .str (Str.ofString "_making_") 751, (.bool false)⟩,
    ⟨PyData.keyHash P (Str.ofString "__new__"), .str (Str.ofString "__new__") 766, (.ref 586)⟩,
    ⟨PyData.keyHash P (Str.ofString "_missing_"), .str (Str.ofString "_missing_") 786, (.ref 495)⟩,
    ⟨PyData.keyHash P (Str.ofString "__init__"), .str (Str.ofString "__init__") 795, (.ref 503)⟩,
    ⟨PyData.keyHash P (Str.ofString "__repr__"), .str (Str.ofString "__repr__") 803, (.ref 510)⟩,
    ⟨PyData.keyHash P (Str.ofString "__str__"), .str (Str.ofString "__str__") 810, (.ref 517)⟩,
    ⟨PyData.keyHash P (Str.ofString "__format__"), .str (Str.ofString "__format__") 818, (.ref 524)⟩,
    ⟨PyData.keyHash P (Str.ofString "__hash__"), .str (Str.ofString "__hash__") 825, (.ref 531)⟩,
    ⟨PyData.keyHash P (Str.ofString "__reduce_ex__"), .str (Str.ofString "__reduce_ex__") 833, (.ref 538)⟩,
    ⟨PyData.keyHash P (Str.ofString "__deepcopy__"), .str (Str.ofString "__deepcopy__") 841, (.ref 545)⟩,
    ⟨PyData.keyHash P (Str.ofString "__copy__"), .str (Str.ofString "__copy__") 848, (.ref 552)⟩,
    ⟨PyData.keyHash P (Str.ofString "__dir__"), .str (Str.ofString "__dir__") 855, (.ref 559)⟩,
    ⟨PyData.keyHash P (Str.ofString "_add_alias_"), .str (Str.ofString "_add_alias_") 863, (.ref 566)⟩,
    ⟨PyData.keyHash P (Str.ofString "_add_value_alias_"), .str (Str.ofString "_add_value_alias_") 871, (.ref 573)⟩,
    ⟨PyData.keyHash P (Str.ofString "name"), .str (Str.ofString "name") 877, (.ref 575)⟩,
    ⟨PyData.keyHash P (Str.ofString "value"), .str (Str.ofString "value") 883, (.ref 578)⟩,
    ⟨PyData.keyHash P (Str.ofString "__static_attributes__"), .str (Str.ofString "__static_attributes__") 884, (.ref 580)⟩,
    ⟨PyData.keyHash P (Str.ofString "__dict__"), .str (Str.ofString "__dict__") 896, (.ref 587)⟩,
    ⟨PyData.keyHash P (Str.ofString "__weakref__"), .str (Str.ofString "__weakref__") 898, (.ref 588)⟩,
    ⟨PyData.keyHash P (Str.ofString "__doc__"), .str (Str.ofString "__doc__") 899, .none⟩].toArray 4, [].toArray⟩
def ob419 (_ : Params) : Obj := ⟨(.type "type"), none, .cls { name := (Str.ofString "EnumType"), bases := [(.type "type")], mro := [(.ref 419), (.type "type"), (.type "object")], ns := 418, qualname := (Str.ofString "EnumType"), hasDict := true, slotNames := [], subclasses := [], abstract := false, collection := none, hasDel := false }, [(some (.ref 208)), none, (some (.str (Str.ofString "EnumType") 411)), (some (.str (Str.ofString "EnumType") 419)), (some .none), (some (.bool true))].toArray⟩
def ob418 (P : Params) : Obj := ⟨(.type "dict"), none, .dict [⟨PyData.keyHash P (Str.ofString "__module__"), .str (Str.ofString "__module__") 418, (.str (Str.ofString "enum") 423)⟩,
    ⟨PyData.keyHash P (Str.ofString "__firstlineno__"), .str (Str.ofString "__firstlineno__") 422, (.int (88) 421)⟩,
    ⟨PyData.keyHash P (Str.ofString "_written_out_"), .str (Str.ofString "_written_out_") 426, (.int (0) 425)⟩,
    ⟨PyData.keyHash P (Str.ofString "__new__"), .str (Str.ofString "__new__") 439, (.ref 420)⟩,
    ⟨PyData.keyHash P (Str.ofString "_planted_"), .str (Str.ofString "_planted_") 448, (.ref 230)⟩,
    ⟨PyData.keyHash P (Str.ofString "_planted_at_"), .str (Str.ofString "_planted_at_") 455, (.ref 237)⟩,
    ⟨PyData.keyHash P (Str.ofString "_held_value_"), .str (Str.ofString "_held_value_") 465, (.ref 244)⟩,
    ⟨PyData.keyHash P (Str.ofString "_canonical_"), .str (Str.ofString "_canonical_") 475, (.ref 251)⟩,
    ⟨PyData.keyHash P (Str.ofString "_book_value_"), .str (Str.ofString "_book_value_") 485, (.ref 258)⟩,
    ⟨PyData.keyHash P (Str.ofString "_mixed_"), .str (Str.ofString "_mixed_") 493, (.ref 265)⟩,
    ⟨PyData.keyHash P (Str.ofString "_held_def_"), .str (Str.ofString "_held_def_") 502, (.ref 272)⟩,
    ⟨PyData.keyHash P (Str.ofString "_closed_"), .str (Str.ofString "_closed_") 509, (.ref 279)⟩,
    ⟨PyData.keyHash P (Str.ofString "_held_auto_"), .str (Str.ofString "_held_auto_") 518, (.ref 286)⟩,
    ⟨PyData.keyHash P (Str.ofString "_unique_"), .str (Str.ofString "_unique_") 525, (.ref 293)⟩,
    ⟨PyData.keyHash P (Str.ofString "_close_"), .str (Str.ofString "_close_") 532, (.ref 300)⟩,
    ⟨PyData.keyHash P (Str.ofString "_expect_"), .str (Str.ofString "_expect_") 540, (.ref 307)⟩,
    ⟨PyData.keyHash P (Str.ofString "_value_of_"), .str (Str.ofString "_value_of_") 549, (.ref 314)⟩,
    ⟨PyData.keyHash P (Str.ofString "_args_of_"), .str (Str.ofString "_args_of_") 557, (.ref 321)⟩,
    ⟨PyData.keyHash P (Str.ofString "__bool__"), .str (Str.ofString "__bool__") 564, (.ref 328)⟩,
    ⟨PyData.keyHash P (Str.ofString "__call__"), .str (Str.ofString "__call__") 573, (.ref 335)⟩,
    ⟨PyData.keyHash P (Str.ofString "__contains__"), .str (Str.ofString "__contains__") 582, (.ref 342)⟩,
    ⟨PyData.keyHash P (Str.ofString "__getitem__"), .str (Str.ofString "__getitem__") 590, (.ref 349)⟩,
    ⟨PyData.keyHash P (Str.ofString "__iter__"), .str (Str.ofString "__iter__") 598, (.ref 356)⟩,
    ⟨PyData.keyHash P (Str.ofString "__len__"), .str (Str.ofString "__len__") 605, (.ref 363)⟩,
    ⟨PyData.keyHash P (Str.ofString "__members__"), .str (Str.ofString "__members__") 613, (.ref 371)⟩,
    ⟨PyData.keyHash P (Str.ofString "__repr__"), .str (Str.ofString "__repr__") 620, (.ref 378)⟩,
    ⟨PyData.keyHash P (Str.ofString "__reversed__"), .str (Str.ofString "__reversed__") 628, (.ref 385)⟩,
    ⟨PyData.keyHash P (Str.ofString "__setattr__"), .str (Str.ofString "__setattr__") 638, (.ref 393)⟩,
    ⟨PyData.keyHash P (Str.ofString "__delattr__"), .str (Str.ofString "__delattr__") 647, (.ref 401)⟩,
    ⟨PyData.keyHash P (Str.ofString "_store_"), .str (Str.ofString "_store_") 657, (.ref 409)⟩,
    ⟨PyData.keyHash P (Str.ofString "__dir__"), .str (Str.ofString "__dir__") 664, (.ref 416)⟩,
    ⟨PyData.keyHash P (Str.ofString "__static_attributes__"), .str (Str.ofString "__static_attributes__") 665, (.ref 417)⟩,
    ⟨PyData.keyHash P (Str.ofString "__doc__"), .str (Str.ofString "__doc__") 668, .none⟩].toArray 3, [].toArray⟩
def ob371 (_ : Params) : Obj := ⟨(.type "property"), none, .fields [(.ref 370), .none, .none, .none, (.str (Str.ofString "__members__") 613), (.bool false)].toArray, [].toArray⟩
@[reducible] def pm1178 : Arguments := by
  refine (?f : ∀ b : Arguments, parm (nth prg.main.body 21) = b → Arguments) _ (by (conv => lhs; whnf))
  exact fun b _ => b
@[reducible] def bd1178 : List Stmt := by
  refine (?f : ∀ b : List Stmt, inner (nth prg.main.body 21) = b → List Stmt) _ (by (conv => lhs; whnf))
  exact fun b _ => b
@[reducible] def sc1178 : Scope := by
  refine (?f : ∀ b : Scope, scop (nth prg.main.body 21) = b → Scope) _ (by (conv => lhs; whnf))
  exact fun b _ => b
def ob1178 (_ : Params) : Obj := ⟨(.type "function"), none, .func (fnOf (Str.ofString "_law_drawn") (Str.ofString "_law_drawn") pm1178 bd1178 sc1178 .none .none .none (.str (Str.ofString "law_ff0002_01") 1889) none (.ref 1177) .none), [].toArray⟩
def ob1177 (_ : Params) : Obj := ⟨(.type "code"), none, .fields [(.str (Str.ofString "_law_drawn") 1891), (.str (Str.ofString "_law_drawn") 1892), (.str (Str.ofString "/claim/cut.py") 1893), (.int (742) 0), (.int (3) 0), (.int (0) 0), (.int (0) 0), (.int (3) 0), (.ref 1172), (.bool true), (.int (181) 0), (.ref 1173), .none, (.ref 1174), (.ref 1175), (.ref 1176), (.int (1898) 0), (.int (742) 0), (.str (Str.ofString "/claim/cut.py") 1899)].toArray, [].toArray⟩
@[reducible] def pm1185 : Arguments := by
  refine (?f : ∀ b : Arguments, parm (nth prg.main.body 22) = b → Arguments) _ (by (conv => lhs; whnf))
  exact fun b _ => b
@[reducible] def bd1185 : List Stmt := by
  refine (?f : ∀ b : List Stmt, inner (nth prg.main.body 22) = b → List Stmt) _ (by (conv => lhs; whnf))
  exact fun b _ => b
@[reducible] def sc1185 : Scope := by
  refine (?f : ∀ b : Scope, scop (nth prg.main.body 22) = b → Scope) _ (by (conv => lhs; whnf))
  exact fun b _ => b
def ob1185 (_ : Params) : Obj := ⟨(.type "function"), none, .func (fnOf (Str.ofString "_law_pair") (Str.ofString "_law_pair") pm1185 bd1185 sc1185 .none .none .none (.str (Str.ofString "law_ff0002_01") 1889) none (.ref 1184) .none), [].toArray⟩
def ob1184 (_ : Params) : Obj := ⟨(.type "code"), none, .fields [(.str (Str.ofString "_law_pair") 1901), (.str (Str.ofString "_law_pair") 1902), (.str (Str.ofString "/claim/cut.py") 1903), (.int (746) 0), (.int (3) 0), (.int (0) 0), (.int (0) 0), (.int (3) 0), (.ref 1179), (.bool true), (.int (181) 0), (.ref 1180), .none, (.ref 1181), (.ref 1182), (.ref 1183), (.int (1914) 0), (.int (746) 0), (.str (Str.ofString "/claim/cut.py") 1915)].toArray, [].toArray⟩
@[reducible] def pm1192 : Arguments := by
  refine (?f : ∀ b : Arguments, parm (nth prg.main.body 23) = b → Arguments) _ (by (conv => lhs; whnf))
  exact fun b _ => b
@[reducible] def bd1192 : List Stmt := by
  refine (?f : ∀ b : List Stmt, inner (nth prg.main.body 23) = b → List Stmt) _ (by (conv => lhs; whnf))
  exact fun b _ => b
@[reducible] def sc1192 : Scope := by
  refine (?f : ∀ b : Scope, scop (nth prg.main.body 23) = b → Scope) _ (by (conv => lhs; whnf))
  exact fun b _ => b
def ob1192 (_ : Params) : Obj := ⟨(.type "function"), none, .func (fnOf (Str.ofString "law") (Str.ofString "law") pm1192 bd1192 sc1192 .none .none .none (.str (Str.ofString "law_ff0002_01") 1889) none (.ref 1191) .none), [].toArray⟩
def ob1191 (_ : Params) : Obj := ⟨(.type "code"), none, .fields [(.str (Str.ofString "law") 1917), (.str (Str.ofString "law") 1918), (.str (Str.ofString "/claim/cut.py") 1919), (.int (765) 0), (.int (1) 0), (.int (0) 0), (.int (0) 0), (.int (3) 0), (.ref 1186), (.bool true), (.int (181) 0), (.ref 1187), .none, (.ref 1188), (.ref 1189), (.ref 1190), (.int (1949) 0), (.int (765) 0), (.str (Str.ofString "/claim/cut.py") 1950)].toArray, [].toArray⟩
@[reducible] def pm869 : Arguments := by
  refine (?f : ∀ b : Arguments, parm (nth (inner (nth prg.main.body 16)) 0) = b → Arguments) _ (by (conv => lhs; whnf))
  exact fun b _ => b
@[reducible] def bd869 : List Stmt := by
  refine (?f : ∀ b : List Stmt, inner (nth (inner (nth prg.main.body 16)) 0) = b → List Stmt) _ (by (conv => lhs; whnf))
  exact fun b _ => b
@[reducible] def sc869 : Scope := by
  refine (?f : ∀ b : Scope, scop (nth (inner (nth prg.main.body 16)) 0) = b → Scope) _ (by (conv => lhs; whnf))
  exact fun b _ => b
def ob869 (_ : Params) : Obj := ⟨(.type "function"), none, .func (fnOf (Str.ofString "__init__") (Str.ofString "Address.__init__") pm869 bd869 sc869 (.ref 862) .none .none (.str (Str.ofString "isotp.address") 913) none (.ref 868) .none), [].toArray⟩
def ob868 (_ : Params) : Obj := ⟨(.type "code"), none, .fields [(.str (Str.ofString "__init__") 1500), (.str (Str.ofString "Address.__init__") 1501), (.str (Str.ofString "/claim/cut.py") 1502), (.int (458) 0), (.int (11) 0), (.int (0) 0), (.int (0) 0), (.int (3) 0), (.ref 863), (.bool true), (.int (181) 0), (.ref 864), .none, (.ref 865), (.ref 866), (.ref 867), (.int (1514) 0), (.int (458) 0), (.str (Str.ofString "/claim/cut.py") 1515)].toArray, [].toArray⟩
def ob862 (_ : Params) : Obj := ⟨(.type "tuple"), none, .seq [(.ref 643), .none, .none, .none, .none, .none, .none, .none, (.bool false), (.bool false)].toArray 0, [].toArray⟩
@[reducible] def pm876 : Arguments := by
  refine (?f : ∀ b : Arguments, parm (nth (inner (nth prg.main.body 16)) 1) = b → Arguments) _ (by (conv => lhs; whnf))
  exact fun b _ => b
@[reducible] def bd876 : List Stmt := by
  refine (?f : ∀ b : List Stmt, inner (nth (inner (nth prg.main.body 16)) 1) = b → List Stmt) _ (by (conv => lhs; whnf))
  exact fun b _ => b
@[reducible] def sc876 : Scope := by
  refine (?f : ∀ b : Scope, scop (nth (inner (nth prg.main.body 16)) 1) = b → Scope) _ (by (conv => lhs; whnf))
  exact fun b _ => b
def ob876 (_ : Params) : Obj := ⟨(.type "function"), none, .func (fnOf (Str.ofString "validate") (Str.ofString "Address.validate") pm876 bd876 sc876 .none .none .none (.str (Str.ofString "isotp.address") 913) none (.ref 875) .none), [].toArray⟩
def ob875 (_ : Params) : Obj := ⟨(.type "code"), none, .fields [(.str (Str.ofString "validate") 1517), (.str (Str.ofString "Address.validate") 1518), (.str (Str.ofString "/claim/cut.py") 1519), (.int (492) 0), (.int (1) 0), (.int (0) 0), (.int (0) 0), (.int (3) 0), (.ref 870), (.bool true), (.int (181) 0), (.ref 871), .none, (.ref 872), (.ref 873), (.ref 874), (.int (1521) 0), (.int (492) 0), (.str (Str.ofString "/claim/cut.py") 1522)].toArray, [].toArray⟩
@[reducible] def pm883 : Arguments := by
  refine (?f : ∀ b : Arguments, parm (nth (inner (nth prg.main.body 16)) 2) = b → Arguments) _ (by (conv => lhs; whnf))
  exact fun b _ => b
@[reducible] def bd883 : List Stmt := by
  refine (?f : ∀ b : List Stmt, inner (nth (inner (nth prg.main.body 16)) 2) = b → List Stmt) _ (by (conv => lhs; whnf))
  exact fun b _ => b
@[reducible] def sc883 : Scope := by
  refine (?f : ∀ b : Scope, scop (nth (inner (nth prg.main.body 16)) 2) = b → Scope) _ (by (conv => lhs; whnf))
  exact fun b _ => b
def ob883 (_ : Params) : Obj := ⟨(.type "function"), none, .func (fnOf (Str.ofString "is_partial_address") (Str.ofString "Address.is_partial_address") pm883 bd883 sc883 .none .none .none (.str (Str.ofString "isotp.address") 913) none (.ref 882) .none), [].toArray⟩
def ob882 (_ : Params) : Obj := ⟨(.type "code"), none, .fields [(.str (Str.ofString "is_partial_address") 1524), (.str (Str.ofString "Address.is_partial_address") 1525), (.str (Str.ofString "/claim/cut.py") 1526), (.int (560) 0), (.int (1) 0), (.int (0) 0), (.int (0) 0), (.int (3) 0), (.ref 877), (.bool true), (.int (181) 0), (.ref 878), .none, (.ref 879), (.ref 880), (.ref 881), (.int (1528) 0), (.int (560) 0), (.str (Str.ofString "/claim/cut.py") 1529)].toArray, [].toArray⟩
@[reducible] def pm890 : Arguments := by
  refine (?f : ∀ b : Arguments, parm (nth (inner (nth prg.main.body 16)) 3) = b → Arguments) _ (by (conv => lhs; whnf))
  exact fun b _ => b
@[reducible] def bd890 : List Stmt := by
  refine (?f : ∀ b : List Stmt, inner (nth (inner (nth prg.main.body 16)) 3) = b → List Stmt) _ (by (conv => lhs; whnf))
  exact fun b _ => b
@[reducible] def sc890 : Scope := by
  refine (?f : ∀ b : Scope, scop (nth (inner (nth prg.main.body 16)) 3) = b → Scope) _ (by (conv => lhs; whnf))
  exact fun b _ => b
def ob890 (_ : Params) : Obj := ⟨(.type "function"), none, .func (fnOf (Str.ofString "is_tx_only") (Str.ofString "Address.is_tx_only") pm890 bd890 sc890 .none .none .none (.str (Str.ofString "isotp.address") 913) none (.ref 889) .none), [].toArray⟩
def ob889 (_ : Params) : Obj := ⟨(.type "code"), none, .fields [(.str (Str.ofString "is_tx_only") 1531), (.str (Str.ofString "Address.is_tx_only") 1532), (.str (Str.ofString "/claim/cut.py") 1533), (.int (563) 0), (.int (1) 0), (.int (0) 0), (.int (0) 0), (.int (3) 0), (.ref 884), (.bool true), (.int (181) 0), (.ref 885), .none, (.ref 886), (.ref 887), (.ref 888), (.int (1535) 0), (.int (563) 0), (.str (Str.ofString "/claim/cut.py") 1536)].toArray, [].toArray⟩
@[reducible] def pm897 : Arguments := by
  refine (?f : ∀ b : Arguments, parm (nth (inner (nth prg.main.body 16)) 4) = b → Arguments) _ (by (conv => lhs; whnf))
  exact fun b _ => b
@[reducible] def bd897 : List Stmt := by
  refine (?f : ∀ b : List Stmt, inner (nth (inner (nth prg.main.body 16)) 4) = b → List Stmt) _ (by (conv => lhs; whnf))
  exact fun b _ => b
@[reducible] def sc897 : Scope := by
  refine (?f : ∀ b : Scope, scop (nth (inner (nth prg.main.body 16)) 4) = b → Scope) _ (by (conv => lhs; whnf))
  exact fun b _ => b
def ob897 (_ : Params) : Obj := ⟨(.type "function"), none, .func (fnOf (Str.ofString "is_rx_only") (Str.ofString "Address.is_rx_only") pm897 bd897 sc897 .none .none .none (.str (Str.ofString "isotp.address") 913) none (.ref 896) .none), [].toArray⟩
def ob896 (_ : Params) : Obj := ⟨(.type "code"), none, .fields [(.str (Str.ofString "is_rx_only") 1538), (.str (Str.ofString "Address.is_rx_only") 1539), (.str (Str.ofString "/claim/cut.py") 1540), (.int (566) 0), (.int (1) 0), (.int (0) 0), (.int (0) 0), (.int (3) 0), (.ref 891), (.bool true), (.int (181) 0), (.ref 892), .none, (.ref 893), (.ref 894), (.ref 895), (.int (1542) 0), (.int (566) 0), (.str (Str.ofString "/claim/cut.py") 1543)].toArray, [].toArray⟩
@[reducible] def pm904 : Arguments := by
  refine (?f : ∀ b : Arguments, parm (nth (inner (nth prg.main.body 16)) 5) = b → Arguments) _ (by (conv => lhs; whnf))
  exact fun b _ => b
@[reducible] def bd904 : List Stmt := by
  refine (?f : ∀ b : List Stmt, inner (nth (inner (nth prg.main.body 16)) 5) = b → List Stmt) _ (by (conv => lhs; whnf))
  exact fun b _ => b
@[reducible] def sc904 : Scope := by
  refine (?f : ∀ b : Scope, scop (nth (inner (nth prg.main.body 16)) 5) = b → Scope) _ (by (conv => lhs; whnf))
  exact fun b _ => b
def ob904 (_ : Params) : Obj := ⟨(.type "function"), none, .func (fnOf (Str.ofString "get_rx_prefix_size") (Str.ofString "Address.get_rx_prefix_size") pm904 bd904 sc904 .none .none .none (.str (Str.ofString "isotp.address") 913) none (.ref 903) .none), [].toArray⟩
def ob903 (_ : Params) : Obj := ⟨(.type "code"), none, .fields [(.str (Str.ofString "get_rx_prefix_size") 1545), (.str (Str.ofString "Address.get_rx_prefix_size") 1546), (.str (Str.ofString "/claim/cut.py") 1547), (.int (569) 0), (.int (1) 0), (.int (0) 0), (.int (0) 0), (.int (3) 0), (.ref 898), (.bool true), (.int (181) 0), (.ref 899), .none, (.ref 900), (.ref 901), (.ref 902), (.int (1549) 0), (.int (569) 0), (.str (Str.ofString "/claim/cut.py") 1550)].toArray, [].toArray⟩
@[reducible] def pm911 : Arguments := by
  refine (?f : ∀ b : Arguments, parm (nth (inner (nth prg.main.body 16)) 6) = b → Arguments) _ (by (conv => lhs; whnf))
  exact fun b _ => b
@[reducible] def bd911 : List Stmt := by
  refine (?f : ∀ b : List Stmt, inner (nth (inner (nth prg.main.body 16)) 6) = b → List Stmt) _ (by (conv => lhs; whnf))
  exact fun b _ => b
@[reducible] def sc911 : Scope := by
  refine (?f : ∀ b : Scope, scop (nth (inner (nth prg.main.body 16)) 6) = b → Scope) _ (by (conv => lhs; whnf))
  exact fun b _ => b
def ob911 (_ : Params) : Obj := ⟨(.type "function"), none, .func (fnOf (Str.ofString "get_tx_payload_prefix") (Str.ofString "Address.get_tx_payload_prefix") pm911 bd911 sc911 .none .none .none (.str (Str.ofString "isotp.address") 913) none (.ref 910) .none), [].toArray⟩
def ob910 (_ : Params) : Obj := ⟨(.type "code"), none, .fields [(.str (Str.ofString "get_tx_payload_prefix") 1552), (.str (Str.ofString "Address.get_tx_payload_prefix") 1553), (.str (Str.ofString "/claim/cut.py") 1554), (.int (572) 0), (.int (1) 0), (.int (0) 0), (.int (0) 0), (.int (3) 0), (.ref 905), (.bool true), (.int (181) 0), (.ref 906), .none, (.ref 907), (.ref 908), (.ref 909), (.int (1556) 0), (.int (572) 0), (.str (Str.ofString "/claim/cut.py") 1557)].toArray, [].toArray⟩
@[reducible] def pm918 : Arguments := by
  refine (?f : ∀ b : Arguments, parm (nth (inner (nth prg.main.body 16)) 7) = b → Arguments) _ (by (conv => lhs; whnf))
  exact fun b _ => b
@[reducible] def bd918 : List Stmt := by
  refine (?f : ∀ b : List Stmt, inner (nth (inner (nth prg.main.body 16)) 7) = b → List Stmt) _ (by (conv => lhs; whnf))
  exact fun b _ => b
@[reducible] def sc918 : Scope := by
  refine (?f : ∀ b : Scope, scop (nth (inner (nth prg.main.body 16)) 7) = b → Scope) _ (by (conv => lhs; whnf))
  exact fun b _ => b
def ob918 (_ : Params) : Obj := ⟨(.type "function"), none, .func (fnOf (Str.ofString "is_for_me") (Str.ofString "Address.is_for_me") pm918 bd918 sc918 .none .none .none (.str (Str.ofString "isotp.address") 913) none (.ref 917) .none), [].toArray⟩
def ob917 (_ : Params) : Obj := ⟨(.type "code"), none, .fields [(.str (Str.ofString "is_for_me") 1559), (.str (Str.ofString "Address.is_for_me") 1560), (.str (Str.ofString "/claim/cut.py") 1561), (.int (575) 0), (.int (2) 0), (.int (0) 0), (.int (0) 0), (.int (3) 0), (.ref 912), (.bool true), (.int (181) 0), (.ref 913), .none, (.ref 914), (.ref 915), (.ref 916), (.int (1564) 0), (.int (575) 0), (.str (Str.ofString "/claim/cut.py") 1565)].toArray, [].toArray⟩
@[reducible] def pm926 : Arguments := by
  refine (?f : ∀ b : Arguments, parm (nth (inner (nth prg.main.body 16)) 8) = b → Arguments) _ (by (conv => lhs; whnf))
  exact fun b _ => b
@[reducible] def bd926 : List Stmt := by
  refine (?f : ∀ b : List Stmt, inner (nth (inner (nth prg.main.body 16)) 8) = b → List Stmt) _ (by (conv => lhs; whnf))
  exact fun b _ => b
@[reducible] def sc926 : Scope := by
  refine (?f : ∀ b : Scope, scop (nth (inner (nth prg.main.body 16)) 8) = b → Scope) _ (by (conv => lhs; whnf))
  exact fun b _ => b
def ob926 (_ : Params) : Obj := ⟨(.type "function"), none, .func (fnOf (Str.ofString "get_tx_arbitration_id") (Str.ofString "Address.get_tx_arbitration_id") pm926 bd926 sc926 (.ref 919) .none .none (.str (Str.ofString "isotp.address") 913) none (.ref 925) .none), [].toArray⟩
def ob925 (_ : Params) : Obj := ⟨(.type "code"), none, .fields [(.str (Str.ofString "get_tx_arbitration_id") 1568), (.str (Str.ofString "Address.get_tx_arbitration_id") 1569), (.str (Str.ofString "/claim/cut.py") 1570), (.int (591) 0), (.int (2) 0), (.int (0) 0), (.int (0) 0), (.int (3) 0), (.ref 920), (.bool true), (.int (181) 0), (.ref 921), .none, (.ref 922), (.ref 923), (.ref 924), (.int (1573) 0), (.int (591) 0), (.str (Str.ofString "/claim/cut.py") 1574)].toArray, [].toArray⟩
def ob919 (_ : Params) : Obj := ⟨(.type "tuple"), none, .seq [(.ref 727)].toArray 0, [].toArray⟩
@[reducible] def pm934 : Arguments := by
  refine (?f : ∀ b : Arguments, parm (nth (inner (nth prg.main.body 16)) 9) = b → Arguments) _ (by (conv => lhs; whnf))
  exact fun b _ => b
@[reducible] def bd934 : List Stmt := by
  refine (?f : ∀ b : List Stmt, inner (nth (inner (nth prg.main.body 16)) 9) = b → List Stmt) _ (by (conv => lhs; whnf))
  exact fun b _ => b
@[reducible] def sc934 : Scope := by
  refine (?f : ∀ b : Scope, scop (nth (inner (nth prg.main.body 16)) 9) = b → Scope) _ (by (conv => lhs; whnf))
  exact fun b _ => b
def ob934 (_ : Params) : Obj := ⟨(.type "function"), none, .func (fnOf (Str.ofString "get_rx_arbitration_id") (Str.ofString "Address.get_rx_arbitration_id") pm934 bd934 sc934 (.ref 927) .none .none (.str (Str.ofString "isotp.address") 913) none (.ref 933) .none), [].toArray⟩
def ob933 (_ : Params) : Obj := ⟨(.type "code"), none, .fields [(.str (Str.ofString "get_rx_arbitration_id") 1577), (.str (Str.ofString "Address.get_rx_arbitration_id") 1578), (.str (Str.ofString "/claim/cut.py") 1579), (.int (597) 0), (.int (2) 0), (.int (0) 0), (.int (0) 0), (.int (3) 0), (.ref 928), (.bool true), (.int (181) 0), (.ref 929), .none, (.ref 930), (.ref 931), (.ref 932), (.int (1582) 0), (.int (597) 0), (.str (Str.ofString "/claim/cut.py") 1583)].toArray, [].toArray⟩
def ob927 (_ : Params) : Obj := ⟨(.type "tuple"), none, .seq [(.ref 727)].toArray 0, [].toArray⟩
@[reducible] def pm941 : Arguments := by
  refine (?f : ∀ b : Arguments, parm (nth (inner (nth prg.main.body 16)) 10) = b → Arguments) _ (by (conv => lhs; whnf))
  exact fun b _ => b
@[reducible] def bd941 : List Stmt := by
  refine (?f : ∀ b : List Stmt, inner (nth (inner (nth prg.main.body 16)) 10) = b → List Stmt) _ (by (conv => lhs; whnf))
  exact fun b _ => b
@[reducible] def sc941 : Scope := by
  refine (?f : ∀ b : Scope, scop (nth (inner (nth prg.main.body 16)) 10) = b → Scope) _ (by (conv => lhs; whnf))
  exact fun b _ => b
def ob941 (_ : Params) : Obj := ⟨(.type "function"), none, .func (fnOf (Str.ofString "_get_tx_arbitration_id") (Str.ofString "Address._get_tx_arbitration_id") pm941 bd941 sc941 .none .none .none (.str (Str.ofString "isotp.address") 913) none (.ref 940) .none), [].toArray⟩
def ob940 (_ : Params) : Obj := ⟨(.type "code"), none, .fields [(.str (Str.ofString "_get_tx_arbitration_id") 1585), (.str (Str.ofString "Address._get_tx_arbitration_id") 1586), (.str (Str.ofString "/claim/cut.py") 1587), (.int (603) 0), (.int (2) 0), (.int (0) 0), (.int (0) 0), (.int (3) 0), (.ref 935), (.bool true), (.int (181) 0), (.ref 936), .none, (.ref 937), (.ref 938), (.ref 939), (.int (1591) 0), (.int (603) 0), (.str (Str.ofString "/claim/cut.py") 1592)].toArray, [].toArray⟩
@[reducible] def pm949 : Arguments := by
  refine (?f : ∀ b : Arguments, parm (nth (inner (nth prg.main.body 16)) 11) = b → Arguments) _ (by (conv => lhs; whnf))
  exact fun b _ => b
@[reducible] def bd949 : List Stmt := by
  refine (?f : ∀ b : List Stmt, inner (nth (inner (nth prg.main.body 16)) 11) = b → List Stmt) _ (by (conv => lhs; whnf))
  exact fun b _ => b
@[reducible] def sc949 : Scope := by
  refine (?f : ∀ b : Scope, scop (nth (inner (nth prg.main.body 16)) 11) = b → Scope) _ (by (conv => lhs; whnf))
  exact fun b _ => b
def ob949 (_ : Params) : Obj := ⟨(.type "function"), none, .func (fnOf (Str.ofString "_get_rx_arbitration_id") (Str.ofString "Address._get_rx_arbitration_id") pm949 bd949 sc949 (.ref 942) .none .none (.str (Str.ofString "isotp.address") 913) none (.ref 948) .none), [].toArray⟩
def ob948 (_ : Params) : Obj := ⟨(.type "code"), none, .fields [(.str (Str.ofString "_get_rx_arbitration_id") 1595), (.str (Str.ofString "Address._get_rx_arbitration_id") 1596), (.str (Str.ofString "/claim/cut.py") 1597), (.int (614) 0), (.int (2) 0), (.int (0) 0), (.int (0) 0), (.int (3) 0), (.ref 943), (.bool true), (.int (181) 0), (.ref 944), .none, (.ref 945), (.ref 946), (.ref 947), (.int (1601) 0), (.int (614) 0), (.str (Str.ofString "/claim/cut.py") 1602)].toArray, [].toArray⟩
def ob942 (_ : Params) : Obj := ⟨(.type "tuple"), none, .seq [(.ref 727)].toArray 0, [].toArray⟩
@[reducible] def pm956 : Arguments := by
  refine (?f : ∀ b : Arguments, parm (nth (inner (nth prg.main.body 16)) 12) = b → Arguments) _ (by (conv => lhs; whnf))
  exact fun b _ => b
@[reducible] def bd956 : List Stmt := by
  refine (?f : ∀ b : List Stmt, inner (nth (inner (nth prg.main.body 16)) 12) = b → List Stmt) _ (by (conv => lhs; whnf))
  exact fun b _ => b
@[reducible] def sc956 : Scope := by
  refine (?f : ∀ b : Scope, scop (nth (inner (nth prg.main.body 16)) 12) = b → Scope) _ (by (conv => lhs; whnf))
  exact fun b _ => b
def ob956 (_ : Params) : Obj := ⟨(.type "function"), none, .func (fnOf (Str.ofString "_is_for_me_normal") (Str.ofString "Address._is_for_me_normal") pm956 bd956 sc956 .none .none .none (.str (Str.ofString "isotp.address") 913) none (.ref 955) .none), [].toArray⟩
def ob955 (_ : Params) : Obj := ⟨(.type "code"), none, .fields [(.str (Str.ofString "_is_for_me_normal") 1604), (.str (Str.ofString "Address._is_for_me_normal") 1605), (.str (Str.ofString "/claim/cut.py") 1606), (.int (625) 0), (.int (2) 0), (.int (0) 0), (.int (0) 0), (.int (3) 0), (.ref 950), (.bool true), (.int (181) 0), (.ref 951), .none, (.ref 952), (.ref 953), (.ref 954), (.int (1609) 0), (.int (625) 0), (.str (Str.ofString "/claim/cut.py") 1610)].toArray, [].toArray⟩
@[reducible] def pm963 : Arguments := by
  refine (?f : ∀ b : Arguments, parm (nth (inner (nth prg.main.body 16)) 13) = b → Arguments) _ (by (conv => lhs; whnf))
  exact fun b _ => b
@[reducible] def bd963 : List Stmt := by
  refine (?f : ∀ b : List Stmt, inner (nth (inner (nth prg.main.body 16)) 13) = b → List Stmt) _ (by (conv => lhs; whnf))
  exact fun b _ => b
@[reducible] def sc963 : Scope := by
  refine (?f : ∀ b : Scope, scop (nth (inner (nth prg.main.body 16)) 13) = b → Scope) _ (by (conv => lhs; whnf))
  exact fun b _ => b
def ob963 (_ : Params) : Obj := ⟨(.type "function"), none, .func (fnOf (Str.ofString "_is_for_me_extended") (Str.ofString "Address._is_for_me_extended") pm963 bd963 sc963 .none .none .none (.str (Str.ofString "isotp.address") 913) none (.ref 962) .none), [].toArray⟩
def ob962 (_ : Params) : Obj := ⟨(.type "code"), none, .fields [(.str (Str.ofString "_is_for_me_extended") 1612), (.str (Str.ofString "Address._is_for_me_extended") 1613), (.str (Str.ofString "/claim/cut.py") 1614), (.int (630) 0), (.int (2) 0), (.int (0) 0), (.int (0) 0), (.int (3) 0), (.ref 957), (.bool true), (.int (181) 0), (.ref 958), .none, (.ref 959), (.ref 960), (.ref 961), (.int (1617) 0), (.int (630) 0), (.str (Str.ofString "/claim/cut.py") 1618)].toArray, [].toArray⟩
@[reducible] def pm970 : Arguments := by
  refine (?f : ∀ b : Arguments, parm (nth (inner (nth prg.main.body 16)) 14) = b → Arguments) _ (by (conv => lhs; whnf))
  exact fun b _ => b
@[reducible] def bd970 : List Stmt := by
  refine (?f : ∀ b : List Stmt, inner (nth (inner (nth prg.main.body 16)) 14) = b → List Stmt) _ (by (conv => lhs; whnf))
  exact fun b _ => b
@[reducible] def sc970 : Scope := by
  refine (?f : ∀ b : Scope, scop (nth (inner (nth prg.main.body 16)) 14) = b → Scope) _ (by (conv => lhs; whnf))
  exact fun b _ => b
def ob970 (_ : Params) : Obj := ⟨(.type "function"), none, .func (fnOf (Str.ofString "_is_for_me_normal_fixed") (Str.ofString "Address._is_for_me_normal_fixed") pm970 bd970 sc970 .none .none .none (.str (Str.ofString "isotp.address") 913) none (.ref 969) .none), [].toArray⟩
def ob969 (_ : Params) : Obj := ⟨(.type "code"), none, .fields [(.str (Str.ofString "_is_for_me_normal_fixed") 1620), (.str (Str.ofString "Address._is_for_me_normal_fixed") 1621), (.str (Str.ofString "/claim/cut.py") 1622), (.int (636) 0), (.int (2) 0), (.int (0) 0), (.int (0) 0), (.int (3) 0), (.ref 964), (.bool true), (.int (181) 0), (.ref 965), .none, (.ref 966), (.ref 967), (.ref 968), (.int (1625) 0), (.int (636) 0), (.str (Str.ofString "/claim/cut.py") 1626)].toArray, [].toArray⟩
@[reducible] def pm977 : Arguments := by
  refine (?f : ∀ b : Arguments, parm (nth (inner (nth prg.main.body 16)) 15) = b → Arguments) _ (by (conv => lhs; whnf))
  exact fun b _ => b
@[reducible] def bd977 : List Stmt := by
  refine (?f : ∀ b : List Stmt, inner (nth (inner (nth prg.main.body 16)) 15) = b → List Stmt) _ (by (conv => lhs; whnf))
  exact fun b _ => b
@[reducible] def sc977 : Scope := by
  refine (?f : ∀ b : Scope, scop (nth (inner (nth prg.main.body 16)) 15) = b → Scope) _ (by (conv => lhs; whnf))
  exact fun b _ => b
def ob977 (_ : Params) : Obj := ⟨(.type "function"), none, .func (fnOf (Str.ofString "_is_for_me_mixed_11bits") (Str.ofString "Address._is_for_me_mixed_11bits") pm977 bd977 sc977 .none .none .none (.str (Str.ofString "isotp.address") 913) none (.ref 976) .none), [].toArray⟩
def ob976 (_ : Params) : Obj := ⟨(.type "code"), none, .fields [(.str (Str.ofString "_is_for_me_mixed_11bits") 1628), (.str (Str.ofString "Address._is_for_me_mixed_11bits") 1629), (.str (Str.ofString "/claim/cut.py") 1630), (.int (641) 0), (.int (2) 0), (.int (0) 0), (.int (0) 0), (.int (3) 0), (.ref 971), (.bool true), (.int (181) 0), (.ref 972), .none, (.ref 973), (.ref 974), (.ref 975), (.int (1633) 0), (.int (641) 0), (.str (Str.ofString "/claim/cut.py") 1634)].toArray, [].toArray⟩
@[reducible] def pm984 : Arguments := by
  refine (?f : ∀ b : Arguments, parm (nth (inner (nth prg.main.body 16)) 16) = b → Arguments) _ (by (conv => lhs; whnf))
  exact fun b _ => b
@[reducible] def bd984 : List Stmt := by
  refine (?f : ∀ b : List Stmt, inner (nth (inner (nth prg.main.body 16)) 16) = b → List Stmt) _ (by (conv => lhs; whnf))
  exact fun b _ => b
@[reducible] def sc984 : Scope := by
  refine (?f : ∀ b : Scope, scop (nth (inner (nth prg.main.body 16)) 16) = b → Scope) _ (by (conv => lhs; whnf))
  exact fun b _ => b
def ob984 (_ : Params) : Obj := ⟨(.type "function"), none, .func (fnOf (Str.ofString "_is_for_me_mixed_29bits") (Str.ofString "Address._is_for_me_mixed_29bits") pm984 bd984 sc984 .none .none .none (.str (Str.ofString "isotp.address") 913) none (.ref 983) .none), [].toArray⟩
def ob983 (_ : Params) : Obj := ⟨(.type "code"), none, .fields [(.str (Str.ofString "_is_for_me_mixed_29bits") 1636), (.str (Str.ofString "Address._is_for_me_mixed_29bits") 1637), (.str (Str.ofString "/claim/cut.py") 1638), (.int (647) 0), (.int (2) 0), (.int (0) 0), (.int (0) 0), (.int (3) 0), (.ref 978), (.bool true), (.int (181) 0), (.ref 979), .none, (.ref 980), (.ref 981), (.ref 982), (.int (1641) 0), (.int (647) 0), (.str (Str.ofString "/claim/cut.py") 1642)].toArray, [].toArray⟩
@[reducible] def pm991 : Arguments := by
  refine (?f : ∀ b : Arguments, parm (nth (inner (nth prg.main.body 16)) 17) = b → Arguments) _ (by (conv => lhs; whnf))
  exact fun b _ => b
@[reducible] def bd991 : List Stmt := by
  refine (?f : ∀ b : List Stmt, inner (nth (inner (nth prg.main.body 16)) 17) = b → List Stmt) _ (by (conv => lhs; whnf))
  exact fun b _ => b
@[reducible] def sc991 : Scope := by
  refine (?f : ∀ b : Scope, scop (nth (inner (nth prg.main.body 16)) 17) = b → Scope) _ (by (conv => lhs; whnf))
  exact fun b _ => b
def ob991 (_ : Params) : Obj := ⟨(.type "function"), none, .func (fnOf (Str.ofString "_requires_extension_byte") (Str.ofString "Address._requires_extension_byte") pm991 bd991 sc991 .none .none .none (.str (Str.ofString "isotp.address") 913) none (.ref 990) .none), [].toArray⟩
def ob990 (_ : Params) : Obj := ⟨(.type "code"), none, .fields [(.str (Str.ofString "_requires_extension_byte") 1644), (.str (Str.ofString "Address._requires_extension_byte") 1645), (.str (Str.ofString "/claim/cut.py") 1646), (.int (653) 0), (.int (1) 0), (.int (0) 0), (.int (0) 0), (.int (3) 0), (.ref 985), (.bool true), (.int (181) 0), (.ref 986), .none, (.ref 987), (.ref 988), (.ref 989), (.int (1648) 0), (.int (653) 0), (.str (Str.ofString "/claim/cut.py") 1649)].toArray, [].toArray⟩
@[reducible] def pm998 : Arguments := by
  refine (?f : ∀ b : Arguments, parm (nth (inner (nth prg.main.body 16)) 18) = b → Arguments) _ (by (conv => lhs; whnf))
  exact fun b _ => b
@[reducible] def bd998 : List Stmt := by
  refine (?f : ∀ b : List Stmt, inner (nth (inner (nth prg.main.body 16)) 18) = b → List Stmt) _ (by (conv => lhs; whnf))
  exact fun b _ => b
@[reducible] def sc998 : Scope := by
  refine (?f : ∀ b : Scope, scop (nth (inner (nth prg.main.body 16)) 18) = b → Scope) _ (by (conv => lhs; whnf))
  exact fun b _ => b
def ob998 (_ : Params) : Obj := ⟨(.type "function"), none, .func (fnOf (Str.ofString "requires_rx_extension_byte") (Str.ofString "Address.requires_rx_extension_byte") pm998 bd998 sc998 .none .none .none (.str (Str.ofString "isotp.address") 913) none (.ref 997) .none), [].toArray⟩
def ob997 (_ : Params) : Obj := ⟨(.type "code"), none, .fields [(.str (Str.ofString "requires_rx_extension_byte") 1651), (.str (Str.ofString "Address.requires_rx_extension_byte") 1652), (.str (Str.ofString "/claim/cut.py") 1653), (.int (656) 0), (.int (1) 0), (.int (0) 0), (.int (0) 0), (.int (3) 0), (.ref 992), (.bool true), (.int (181) 0), (.ref 993), .none, (.ref 994), (.ref 995), (.ref 996), (.int (1655) 0), (.int (656) 0), (.str (Str.ofString "/claim/cut.py") 1656)].toArray, [].toArray⟩
@[reducible] def pm1005 : Arguments := by
  refine (?f : ∀ b : Arguments, parm (nth (inner (nth prg.main.body 16)) 19) = b → Arguments) _ (by (conv => lhs; whnf))
  exact fun b _ => b
@[reducible] def bd1005 : List Stmt := by
  refine (?f : ∀ b : List Stmt, inner (nth (inner (nth prg.main.body 16)) 19) = b → List Stmt) _ (by (conv => lhs; whnf))
  exact fun b _ => b
@[reducible] def sc1005 : Scope := by
  refine (?f : ∀ b : Scope, scop (nth (inner (nth prg.main.body 16)) 19) = b → Scope) _ (by (conv => lhs; whnf))
  exact fun b _ => b
def ob1005 (_ : Params) : Obj := ⟨(.type "function"), none, .func (fnOf (Str.ofString "requires_tx_extension_byte") (Str.ofString "Address.requires_tx_extension_byte") pm1005 bd1005 sc1005 .none .none .none (.str (Str.ofString "isotp.address") 913) none (.ref 1004) .none), [].toArray⟩
def ob1004 (_ : Params) : Obj := ⟨(.type "code"), none, .fields [(.str (Str.ofString "requires_tx_extension_byte") 1658), (.str (Str.ofString "Address.requires_tx_extension_byte") 1659), (.str (Str.ofString "/claim/cut.py") 1660), (.int (659) 0), (.int (1) 0), (.int (0) 0), (.int (0) 0), (.int (3) 0), (.ref 999), (.bool true), (.int (181) 0), (.ref 1000), .none, (.ref 1001), (.ref 1002), (.ref 1003), (.int (1662) 0), (.int (659) 0), (.str (Str.ofString "/claim/cut.py") 1663)].toArray, [].toArray⟩
@[reducible] def pm1012 : Arguments := by
  refine (?f : ∀ b : Arguments, parm (nth (inner (nth prg.main.body 16)) 20) = b → Arguments) _ (by (conv => lhs; whnf))
  exact fun b _ => b
@[reducible] def bd1012 : List Stmt := by
  refine (?f : ∀ b : List Stmt, inner (nth (inner (nth prg.main.body 16)) 20) = b → List Stmt) _ (by (conv => lhs; whnf))
  exact fun b _ => b
@[reducible] def sc1012 : Scope := by
  refine (?f : ∀ b : Scope, scop (nth (inner (nth prg.main.body 16)) 20) = b → Scope) _ (by (conv => lhs; whnf))
  exact fun b _ => b
def ob1012 (_ : Params) : Obj := ⟨(.type "function"), none, .func (fnOf (Str.ofString "get_tx_extension_byte") (Str.ofString "Address.get_tx_extension_byte") pm1012 bd1012 sc1012 .none .none .none (.str (Str.ofString "isotp.address") 913) none (.ref 1011) .none), [].toArray⟩
def ob1011 (_ : Params) : Obj := ⟨(.type "code"), none, .fields [(.str (Str.ofString "get_tx_extension_byte") 1665), (.str (Str.ofString "Address.get_tx_extension_byte") 1666), (.str (Str.ofString "/claim/cut.py") 1667), (.int (662) 0), (.int (1) 0), (.int (0) 0), (.int (0) 0), (.int (3) 0), (.ref 1006), (.bool true), (.int (181) 0), (.ref 1007), .none, (.ref 1008), (.ref 1009), (.ref 1010), (.int (1669) 0), (.int (662) 0), (.str (Str.ofString "/claim/cut.py") 1670)].toArray, [].toArray⟩
@[reducible] def pm1019 : Arguments := by
  refine (?f : ∀ b : Arguments, parm (nth (inner (nth prg.main.body 16)) 21) = b → Arguments) _ (by (conv => lhs; whnf))
  exact fun b _ => b
@[reducible] def bd1019 : List Stmt := by
  refine (?f : ∀ b : List Stmt, inner (nth (inner (nth prg.main.body 16)) 21) = b → List Stmt) _ (by (conv => lhs; whnf))
  exact fun b _ => b
@[reducible] def sc1019 : Scope := by
  refine (?f : ∀ b : Scope, scop (nth (inner (nth prg.main.body 16)) 21) = b → Scope) _ (by (conv => lhs; whnf))
  exact fun b _ => b
def ob1019 (_ : Params) : Obj := ⟨(.type "function"), none, .func (fnOf (Str.ofString "get_rx_extension_byte") (Str.ofString "Address.get_rx_extension_byte") pm1019 bd1019 sc1019 .none .none .none (.str (Str.ofString "isotp.address") 913) none (.ref 1018) .none), [].toArray⟩
def ob1018 (_ : Params) : Obj := ⟨(.type "code"), none, .fields [(.str (Str.ofString "get_rx_extension_byte") 1672), (.str (Str.ofString "Address.get_rx_extension_byte") 1673), (.str (Str.ofString "/claim/cut.py") 1674), (.int (669) 0), (.int (1) 0), (.int (0) 0), (.int (0) 0), (.int (3) 0), (.ref 1013), (.bool true), (.int (181) 0), (.ref 1014), .none, (.ref 1015), (.ref 1016), (.ref 1017), (.int (1676) 0), (.int (669) 0), (.str (Str.ofString "/claim/cut.py") 1677)].toArray, [].toArray⟩
@[reducible] def pm1026 : Arguments := by
  refine (?f : ∀ b : Arguments, parm (nth (inner (nth prg.main.body 16)) 22) = b → Arguments) _ (by (conv => lhs; whnf))
  exact fun b _ => b
@[reducible] def bd1026 : List Stmt := by
  refine (?f : ∀ b : List Stmt, inner (nth (inner (nth prg.main.body 16)) 22) = b → List Stmt) _ (by (conv => lhs; whnf))
  exact fun b _ => b
@[reducible] def sc1026 : Scope := by
  refine (?f : ∀ b : Scope, scop (nth (inner (nth prg.main.body 16)) 22) = b → Scope) _ (by (conv => lhs; whnf))
  exact fun b _ => b
def ob1026 (_ : Params) : Obj := ⟨(.type "function"), none, .func (fnOf (Str.ofString "is_tx_29bits") (Str.ofString "Address.is_tx_29bits") pm1026 bd1026 sc1026 .none .none .none (.str (Str.ofString "isotp.address") 913) none (.ref 1025) .none), [].toArray⟩
def ob1025 (_ : Params) : Obj := ⟨(.type "code"), none, .fields [(.str (Str.ofString "is_tx_29bits") 1679), (.str (Str.ofString "Address.is_tx_29bits") 1680), (.str (Str.ofString "/claim/cut.py") 1681), (.int (676) 0), (.int (1) 0), (.int (0) 0), (.int (0) 0), (.int (3) 0), (.ref 1020), (.bool true), (.int (181) 0), (.ref 1021), .none, (.ref 1022), (.ref 1023), (.ref 1024), (.int (1683) 0), (.int (676) 0), (.str (Str.ofString "/claim/cut.py") 1684)].toArray, [].toArray⟩
@[reducible] def pm1033 : Arguments := by
  refine (?f : ∀ b : Arguments, parm (nth (inner (nth prg.main.body 16)) 23) = b → Arguments) _ (by (conv => lhs; whnf))
  exact fun b _ => b
@[reducible] def bd1033 : List Stmt := by
  refine (?f : ∀ b : List Stmt, inner (nth (inner (nth prg.main.body 16)) 23) = b → List Stmt) _ (by (conv => lhs; whnf))
  exact fun b _ => b
@[reducible] def sc1033 : Scope := by
  refine (?f : ∀ b : Scope, scop (nth (inner (nth prg.main.body 16)) 23) = b → Scope) _ (by (conv => lhs; whnf))
  exact fun b _ => b
def ob1033 (_ : Params) : Obj := ⟨(.type "function"), none, .func (fnOf (Str.ofString "is_rx_29bits") (Str.ofString "Address.is_rx_29bits") pm1033 bd1033 sc1033 .none .none .none (.str (Str.ofString "isotp.address") 913) none (.ref 1032) .none), [].toArray⟩
def ob1032 (_ : Params) : Obj := ⟨(.type "code"), none, .fields [(.str (Str.ofString "is_rx_29bits") 1686), (.str (Str.ofString "Address.is_rx_29bits") 1687), (.str (Str.ofString "/claim/cut.py") 1688), (.int (679) 0), (.int (1) 0), (.int (0) 0), (.int (0) 0), (.int (3) 0), (.ref 1027), (.bool true), (.int (181) 0), (.ref 1028), .none, (.ref 1029), (.ref 1030), (.ref 1031), (.int (1690) 0), (.int (679) 0), (.str (Str.ofString "/claim/cut.py") 1691)].toArray, [].toArray⟩
@[reducible] def pm1052 : Arguments := by
  refine (?f : ∀ b : Arguments, parm (nth (inner (nth prg.main.body 17)) 0) = b → Arguments) _ (by (conv => lhs; whnf))
  exact fun b _ => b
@[reducible] def bd1052 : List Stmt := by
  refine (?f : ∀ b : List Stmt, inner (nth (inner (nth prg.main.body 17)) 0) = b → List Stmt) _ (by (conv => lhs; whnf))
  exact fun b _ => b
@[reducible] def sc1052 : Scope := by
  refine (?f : ∀ b : Scope, scop (nth (inner (nth prg.main.body 17)) 0) = b → Scope) _ (by (conv => lhs; whnf))
  exact fun b _ => b
def ob1052 (_ : Params) : Obj := ⟨(.type "function"), none, .func (fnOf (Str.ofString "__init__") (Str.ofString "AsymmetricAddress.__init__") pm1052 bd1052 sc1052 .none .none .none (.str (Str.ofString "isotp.address") 913) none (.ref 1051) .none), [].toArray⟩
def ob1051 (_ : Params) : Obj := ⟨(.type "code"), none, .fields [(.str (Str.ofString "__init__") 1726), (.str (Str.ofString "AsymmetricAddress.__init__") 1727), (.str (Str.ofString "/claim/cut.py") 1728), (.int (683) 0), (.int (3) 0), (.int (0) 0), (.int (0) 0), (.int (3) 0), (.ref 1046), (.bool true), (.int (181) 0), (.ref 1047), .none, (.ref 1048), (.ref 1049), (.ref 1050), (.int (1732) 0), (.int (683) 0), (.str (Str.ofString "/claim/cut.py") 1733)].toArray, [].toArray⟩
@[reducible] def pm1059 : Arguments := by
  refine (?f : ∀ b : Arguments, parm (nth (inner (nth prg.main.body 17)) 1) = b → Arguments) _ (by (conv => lhs; whnf))
  exact fun b _ => b
@[reducible] def bd1059 : List Stmt := by
  refine (?f : ∀ b : List Stmt, inner (nth (inner (nth prg.main.body 17)) 1) = b → List Stmt) _ (by (conv => lhs; whnf))
  exact fun b _ => b
@[reducible] def sc1059 : Scope := by
  refine (?f : ∀ b : Scope, scop (nth (inner (nth prg.main.body 17)) 1) = b → Scope) _ (by (conv => lhs; whnf))
  exact fun b _ => b
def ob1059 (_ : Params) : Obj := ⟨(.type "function"), none, .func (fnOf (Str.ofString "get_tx_extension_byte") (Str.ofString "AsymmetricAddress.get_tx_extension_byte") pm1059 bd1059 sc1059 .none .none .none (.str (Str.ofString "isotp.address") 913) none (.ref 1058) .none), [].toArray⟩
def ob1058 (_ : Params) : Obj := ⟨(.type "code"), none, .fields [(.str (Str.ofString "get_tx_extension_byte") 1735), (.str (Str.ofString "AsymmetricAddress.get_tx_extension_byte") 1736), (.str (Str.ofString "/claim/cut.py") 1737), (.int (695) 0), (.int (1) 0), (.int (0) 0), (.int (0) 0), (.int (3) 0), (.ref 1053), (.bool true), (.int (181) 0), (.ref 1054), .none, (.ref 1055), (.ref 1056), (.ref 1057), (.int (1739) 0), (.int (695) 0), (.str (Str.ofString "/claim/cut.py") 1740)].toArray, [].toArray⟩
@[reducible] def pm1066 : Arguments := by
  refine (?f : ∀ b : Arguments, parm (nth (inner (nth prg.main.body 17)) 2) = b → Arguments) _ (by (conv => lhs; whnf))
  exact fun b _ => b
@[reducible] def bd1066 : List Stmt := by
  refine (?f : ∀ b : List Stmt, inner (nth (inner (nth prg.main.body 17)) 2) = b → List Stmt) _ (by (conv => lhs; whnf))
  exact fun b _ => b
@[reducible] def sc1066 : Scope := by
  refine (?f : ∀ b : Scope, scop (nth (inner (nth prg.main.body 17)) 2) = b → Scope) _ (by (conv => lhs; whnf))
  exact fun b _ => b
def ob1066 (_ : Params) : Obj := ⟨(.type "function"), none, .func (fnOf (Str.ofString "get_rx_extension_byte") (Str.ofString "AsymmetricAddress.get_rx_extension_byte") pm1066 bd1066 sc1066 .none .none .none (.str (Str.ofString "isotp.address") 913) none (.ref 1065) .none), [].toArray⟩
def ob1065 (_ : Params) : Obj := ⟨(.type "code"), none, .fields [(.str (Str.ofString "get_rx_extension_byte") 1742), (.str (Str.ofString "AsymmetricAddress.get_rx_extension_byte") 1743), (.str (Str.ofString "/claim/cut.py") 1744), (.int (698) 0), (.int (1) 0), (.int (0) 0), (.int (0) 0), (.int (3) 0), (.ref 1060), (.bool true), (.int (181) 0), (.ref 1061), .none, (.ref 1062), (.ref 1063), (.ref 1064), (.int (1746) 0), (.int (698) 0), (.str (Str.ofString "/claim/cut.py") 1747)].toArray, [].toArray⟩
@[reducible] def pm1073 : Arguments := by
  refine (?f : ∀ b : Arguments, parm (nth (inner (nth prg.main.body 17)) 3) = b → Arguments) _ (by (conv => lhs; whnf))
  exact fun b _ => b
@[reducible] def bd1073 : List Stmt := by
  refine (?f : ∀ b : List Stmt, inner (nth (inner (nth prg.main.body 17)) 3) = b → List Stmt) _ (by (conv => lhs; whnf))
  exact fun b _ => b
@[reducible] def sc1073 : Scope := by
  refine (?f : ∀ b : Scope, scop (nth (inner (nth prg.main.body 17)) 3) = b → Scope) _ (by (conv => lhs; whnf))
  exact fun b _ => b
def ob1073 (_ : Params) : Obj := ⟨(.type "function"), none, .func (fnOf (Str.ofString "is_for_me") (Str.ofString "AsymmetricAddress.is_for_me") pm1073 bd1073 sc1073 .none .none .none (.str (Str.ofString "isotp.address") 913) none (.ref 1072) .none), [].toArray⟩
def ob1072 (_ : Params) : Obj := ⟨(.type "code"), none, .fields [(.str (Str.ofString "is_for_me") 1749), (.str (Str.ofString "AsymmetricAddress.is_for_me") 1750), (.str (Str.ofString "/claim/cut.py") 1751), (.int (701) 0), (.int (2) 0), (.int (0) 0), (.int (0) 0), (.int (3) 0), (.ref 1067), (.bool true), (.int (181) 0), (.ref 1068), .none, (.ref 1069), (.ref 1070), (.ref 1071), (.int (1754) 0), (.int (701) 0), (.str (Str.ofString "/claim/cut.py") 1755)].toArray, [].toArray⟩
@[reducible] def pm1081 : Arguments := by
  refine (?f : ∀ b : Arguments, parm (nth (inner (nth prg.main.body 17)) 4) = b → Arguments) _ (by (conv => lhs; whnf))
  exact fun b _ => b
@[reducible] def bd1081 : List Stmt := by
  refine (?f : ∀ b : List Stmt, inner (nth (inner (nth prg.main.body 17)) 4) = b → List Stmt) _ (by (conv => lhs; whnf))
  exact fun b _ => b
@[reducible] def sc1081 : Scope := by
  refine (?f : ∀ b : Scope, scop (nth (inner (nth prg.main.body 17)) 4) = b → Scope) _ (by (conv => lhs; whnf))
  exact fun b _ => b
def ob1081 (_ : Params) : Obj := ⟨(.type "function"), none, .func (fnOf (Str.ofString "get_tx_arbitration_id") (Str.ofString "AsymmetricAddress.get_tx_arbitration_id") pm1081 bd1081 sc1081 (.ref 1074) .none .none (.str (Str.ofString "isotp.address") 913) none (.ref 1080) .none), [].toArray⟩
def ob1080 (_ : Params) : Obj := ⟨(.type "code"), none, .fields [(.str (Str.ofString "get_tx_arbitration_id") 1758), (.str (Str.ofString "AsymmetricAddress.get_tx_arbitration_id") 1759), (.str (Str.ofString "/claim/cut.py") 1760), (.int (704) 0), (.int (2) 0), (.int (0) 0), (.int (0) 0), (.int (3) 0), (.ref 1075), (.bool true), (.int (181) 0), (.ref 1076), .none, (.ref 1077), (.ref 1078), (.ref 1079), (.int (1763) 0), (.int (704) 0), (.str (Str.ofString "/claim/cut.py") 1764)].toArray, [].toArray⟩
def ob1074 (_ : Params) : Obj := ⟨(.type "tuple"), none, .seq [(.ref 727)].toArray 0, [].toArray⟩
@[reducible] def pm1089 : Arguments := by
  refine (?f : ∀ b : Arguments, parm (nth (inner (nth prg.main.body 17)) 5) = b → Arguments) _ (by (conv => lhs; whnf))
  exact fun b _ => b
@[reducible] def bd1089 : List Stmt := by
  refine (?f : ∀ b : List Stmt, inner (nth (inner (nth prg.main.body 17)) 5) = b → List Stmt) _ (by (conv => lhs; whnf))
  exact fun b _ => b
@[reducible] def sc1089 : Scope := by
  refine (?f : ∀ b : Scope, scop (nth (inner (nth prg.main.body 17)) 5) = b → Scope) _ (by (conv => lhs; whnf))
  exact fun b _ => b
def ob1089 (_ : Params) : Obj := ⟨(.type "function"), none, .func (fnOf (Str.ofString "get_rx_arbitration_id") (Str.ofString "AsymmetricAddress.get_rx_arbitration_id") pm1089 bd1089 sc1089 (.ref 1082) .none .none (.str (Str.ofString "isotp.address") 913) none (.ref 1088) .none), [].toArray⟩
def ob1088 (_ : Params) : Obj := ⟨(.type "code"), none, .fields [(.str (Str.ofString "get_rx_arbitration_id") 1767), (.str (Str.ofString "AsymmetricAddress.get_rx_arbitration_id") 1768), (.str (Str.ofString "/claim/cut.py") 1769), (.int (707) 0), (.int (2) 0), (.int (0) 0), (.int (0) 0), (.int (3) 0), (.ref 1083), (.bool true), (.int (181) 0), (.ref 1084), .none, (.ref 1085), (.ref 1086), (.ref 1087), (.int (1772) 0), (.int (707) 0), (.str (Str.ofString "/claim/cut.py") 1773)].toArray, [].toArray⟩
def ob1082 (_ : Params) : Obj := ⟨(.type "tuple"), none, .seq [(.ref 727)].toArray 0, [].toArray⟩
@[reducible] def pm1096 : Arguments := by
  refine (?f : ∀ b : Arguments, parm (nth (inner (nth prg.main.body 17)) 6) = b → Arguments) _ (by (conv => lhs; whnf))
  exact fun b _ => b
@[reducible] def bd1096 : List Stmt := by
  refine (?f : ∀ b : List Stmt, inner (nth (inner (nth prg.main.body 17)) 6) = b → List Stmt) _ (by (conv => lhs; whnf))
  exact fun b _ => b
@[reducible] def sc1096 : Scope := by
  refine (?f : ∀ b : Scope, scop (nth (inner (nth prg.main.body 17)) 6) = b → Scope) _ (by (conv => lhs; whnf))
  exact fun b _ => b
def ob1096 (_ : Params) : Obj := ⟨(.type "function"), none, .func (fnOf (Str.ofString "is_tx_29bits") (Str.ofString "AsymmetricAddress.is_tx_29bits") pm1096 bd1096 sc1096 .none .none .none (.str (Str.ofString "isotp.address") 913) none (.ref 1095) .none), [].toArray⟩
def ob1095 (_ : Params) : Obj := ⟨(.type "code"), none, .fields [(.str (Str.ofString "is_tx_29bits") 1775), (.str (Str.ofString "AsymmetricAddress.is_tx_29bits") 1776), (.str (Str.ofString "/claim/cut.py") 1777), (.int (710) 0), (.int (1) 0), (.int (0) 0), (.int (0) 0), (.int (3) 0), (.ref 1090), (.bool true), (.int (181) 0), (.ref 1091), .none, (.ref 1092), (.ref 1093), (.ref 1094), (.int (1779) 0), (.int (710) 0), (.str (Str.ofString "/claim/cut.py") 1780)].toArray, [].toArray⟩
@[reducible] def pm1103 : Arguments := by
  refine (?f : ∀ b : Arguments, parm (nth (inner (nth prg.main.body 17)) 7) = b → Arguments) _ (by (conv => lhs; whnf))
  exact fun b _ => b
@[reducible] def bd1103 : List Stmt := by
  refine (?f : ∀ b : List Stmt, inner (nth (inner (nth prg.main.body 17)) 7) = b → List Stmt) _ (by (conv => lhs; whnf))
  exact fun b _ => b
@[reducible] def sc1103 : Scope := by
  refine (?f : ∀ b : Scope, scop (nth (inner (nth prg.main.body 17)) 7) = b → Scope) _ (by (conv => lhs; whnf))
  exact fun b _ => b
def ob1103 (_ : Params) : Obj := ⟨(.type "function"), none, .func (fnOf (Str.ofString "is_rx_29bits") (Str.ofString "AsymmetricAddress.is_rx_29bits") pm1103 bd1103 sc1103 .none .none .none (.str (Str.ofString "isotp.address") 913) none (.ref 1102) .none), [].toArray⟩
def ob1102 (_ : Params) : Obj := ⟨(.type "code"), none, .fields [(.str (Str.ofString "is_rx_29bits") 1782), (.str (Str.ofString "AsymmetricAddress.is_rx_29bits") 1783), (.str (Str.ofString "/claim/cut.py") 1784), (.int (713) 0), (.int (1) 0), (.int (0) 0), (.int (0) 0), (.int (3) 0), (.ref 1097), (.bool true), (.int (181) 0), (.ref 1098), .none, (.ref 1099), (.ref 1100), (.ref 1101), (.int (1786) 0), (.int (713) 0), (.str (Str.ofString "/claim/cut.py") 1787)].toArray, [].toArray⟩
@[reducible] def pm1110 : Arguments := by
  refine (?f : ∀ b : Arguments, parm (nth (inner (nth prg.main.body 17)) 8) = b → Arguments) _ (by (conv => lhs; whnf))
  exact fun b _ => b
@[reducible] def bd1110 : List Stmt := by
  refine (?f : ∀ b : List Stmt, inner (nth (inner (nth prg.main.body 17)) 8) = b → List Stmt) _ (by (conv => lhs; whnf))
  exact fun b _ => b
@[reducible] def sc1110 : Scope := by
  refine (?f : ∀ b : Scope, scop (nth (inner (nth prg.main.body 17)) 8) = b → Scope) _ (by (conv => lhs; whnf))
  exact fun b _ => b
def ob1110 (_ : Params) : Obj := ⟨(.type "function"), none, .func (fnOf (Str.ofString "requires_tx_extension_byte") (Str.ofString "AsymmetricAddress.requires_tx_extension_byte") pm1110 bd1110 sc1110 .none .none .none (.str (Str.ofString "isotp.address") 913) none (.ref 1109) .none), [].toArray⟩
def ob1109 (_ : Params) : Obj := ⟨(.type "code"), none, .fields [(.str (Str.ofString "requires_tx_extension_byte") 1789), (.str (Str.ofString "AsymmetricAddress.requires_tx_extension_byte") 1790), (.str (Str.ofString "/claim/cut.py") 1791), (.int (716) 0), (.int (1) 0), (.int (0) 0), (.int (0) 0), (.int (3) 0), (.ref 1104), (.bool true), (.int (181) 0), (.ref 1105), .none, (.ref 1106), (.ref 1107), (.ref 1108), (.int (1793) 0), (.int (716) 0), (.str (Str.ofString "/claim/cut.py") 1794)].toArray, [].toArray⟩
@[reducible] def pm1117 : Arguments := by
  refine (?f : ∀ b : Arguments, parm (nth (inner (nth prg.main.body 17)) 9) = b → Arguments) _ (by (conv => lhs; whnf))
  exact fun b _ => b
@[reducible] def bd1117 : List Stmt := by
  refine (?f : ∀ b : List Stmt, inner (nth (inner (nth prg.main.body 17)) 9) = b → List Stmt) _ (by (conv => lhs; whnf))
  exact fun b _ => b
@[reducible] def sc1117 : Scope := by
  refine (?f : ∀ b : Scope, scop (nth (inner (nth prg.main.body 17)) 9) = b → Scope) _ (by (conv => lhs; whnf))
  exact fun b _ => b
def ob1117 (_ : Params) : Obj := ⟨(.type "function"), none, .func (fnOf (Str.ofString "requires_rx_extension_byte") (Str.ofString "AsymmetricAddress.requires_rx_extension_byte") pm1117 bd1117 sc1117 .none .none .none (.str (Str.ofString "isotp.address") 913) none (.ref 1116) .none), [].toArray⟩
def ob1116 (_ : Params) : Obj := ⟨(.type "code"), none, .fields [(.str (Str.ofString "requires_rx_extension_byte") 1796), (.str (Str.ofString "AsymmetricAddress.requires_rx_extension_byte") 1797), (.str (Str.ofString "/claim/cut.py") 1798), (.int (719) 0), (.int (1) 0), (.int (0) 0), (.int (0) 0), (.int (3) 0), (.ref 1111), (.bool true), (.int (181) 0), (.ref 1112), .none, (.ref 1113), (.ref 1114), (.ref 1115), (.int (1800) 0), (.int (719) 0), (.str (Str.ofString "/claim/cut.py") 1801)].toArray, [].toArray⟩
@[reducible] def pm1124 : Arguments := by
  refine (?f : ∀ b : Arguments, parm (nth (inner (nth prg.main.body 17)) 10) = b → Arguments) _ (by (conv => lhs; whnf))
  exact fun b _ => b
@[reducible] def bd1124 : List Stmt := by
  refine (?f : ∀ b : List Stmt, inner (nth (inner (nth prg.main.body 17)) 10) = b → List Stmt) _ (by (conv => lhs; whnf))
  exact fun b _ => b
@[reducible] def sc1124 : Scope := by
  refine (?f : ∀ b : Scope, scop (nth (inner (nth prg.main.body 17)) 10) = b → Scope) _ (by (conv => lhs; whnf))
  exact fun b _ => b
def ob1124 (_ : Params) : Obj := ⟨(.type "function"), none, .func (fnOf (Str.ofString "get_rx_prefix_size") (Str.ofString "AsymmetricAddress.get_rx_prefix_size") pm1124 bd1124 sc1124 .none .none .none (.str (Str.ofString "isotp.address") 913) none (.ref 1123) .none), [].toArray⟩
def ob1123 (_ : Params) : Obj := ⟨(.type "code"), none, .fields [(.str (Str.ofString "get_rx_prefix_size") 1803), (.str (Str.ofString "AsymmetricAddress.get_rx_prefix_size") 1804), (.str (Str.ofString "/claim/cut.py") 1805), (.int (722) 0), (.int (1) 0), (.int (0) 0), (.int (0) 0), (.int (3) 0), (.ref 1118), (.bool true), (.int (181) 0), (.ref 1119), .none, (.ref 1120), (.ref 1121), (.ref 1122), (.int (1807) 0), (.int (722) 0), (.str (Str.ofString "/claim/cut.py") 1808)].toArray, [].toArray⟩
@[reducible] def pm1131 : Arguments := by
  refine (?f : ∀ b : Arguments, parm (nth (inner (nth prg.main.body 17)) 11) = b → Arguments) _ (by (conv => lhs; whnf))
  exact fun b _ => b
@[reducible] def bd1131 : List Stmt := by
  refine (?f : ∀ b : List Stmt, inner (nth (inner (nth prg.main.body 17)) 11) = b → List Stmt) _ (by (conv => lhs; whnf))
  exact fun b _ => b
@[reducible] def sc1131 : Scope := by
  refine (?f : ∀ b : Scope, scop (nth (inner (nth prg.main.body 17)) 11) = b → Scope) _ (by (conv => lhs; whnf))
  exact fun b _ => b
def ob1131 (_ : Params) : Obj := ⟨(.type "function"), none, .func (fnOf (Str.ofString "get_tx_payload_prefix") (Str.ofString "AsymmetricAddress.get_tx_payload_prefix") pm1131 bd1131 sc1131 .none .none .none (.str (Str.ofString "isotp.address") 913) none (.ref 1130) .none), [].toArray⟩
def ob1130 (_ : Params) : Obj := ⟨(.type "code"), none, .fields [(.str (Str.ofString "get_tx_payload_prefix") 1810), (.str (Str.ofString "AsymmetricAddress.get_tx_payload_prefix") 1811), (.str (Str.ofString "/claim/cut.py") 1812), (.int (725) 0), (.int (1) 0), (.int (0) 0), (.int (0) 0), (.int (3) 0), (.ref 1125), (.bool true), (.int (181) 0), (.ref 1126), .none, (.ref 1127), (.ref 1128), (.ref 1129), (.int (1814) 0), (.int (725) 0), (.str (Str.ofString "/claim/cut.py") 1815)].toArray, [].toArray⟩
@[reducible] def pm1138 : Arguments := by
  refine (?f : ∀ b : Arguments, parm (nth (inner (nth prg.main.body 17)) 12) = b → Arguments) _ (by (conv => lhs; whnf))
  exact fun b _ => b
@[reducible] def bd1138 : List Stmt := by
  refine (?f : ∀ b : List Stmt, inner (nth (inner (nth prg.main.body 17)) 12) = b → List Stmt) _ (by (conv => lhs; whnf))
  exact fun b _ => b
@[reducible] def sc1138 : Scope := by
  refine (?f : ∀ b : Scope, scop (nth (inner (nth prg.main.body 17)) 12) = b → Scope) _ (by (conv => lhs; whnf))
  exact fun b _ => b
def ob1138 (_ : Params) : Obj := ⟨(.type "function"), none, .func (fnOf (Str.ofString "is_partial_address") (Str.ofString "AsymmetricAddress.is_partial_address") pm1138 bd1138 sc1138 .none .none .none (.str (Str.ofString "isotp.address") 913) none (.ref 1137) .none), [].toArray⟩
def ob1137 (_ : Params) : Obj := ⟨(.type "code"), none, .fields [(.str (Str.ofString "is_partial_address") 1817), (.str (Str.ofString "AsymmetricAddress.is_partial_address") 1818), (.str (Str.ofString "/claim/cut.py") 1819), (.int (728) 0), (.int (1) 0), (.int (0) 0), (.int (0) 0), (.int (3) 0), (.ref 1132), (.bool true), (.int (181) 0), (.ref 1133), .none, (.ref 1134), (.ref 1135), (.ref 1136), (.int (1821) 0), (.int (728) 0), (.str (Str.ofString "/claim/cut.py") 1822)].toArray, [].toArray⟩
@[reducible] def pm1159 : Arguments := by
  refine (?f : ∀ b : Arguments, parm (nth (inner (nth prg.main.body 19)) 1) = b → Arguments) _ (by (conv => lhs; whnf))
  exact fun b _ => b
@[reducible] def bd1159 : List Stmt := by
  refine (?f : ∀ b : List Stmt, inner (nth (inner (nth prg.main.body 19)) 1) = b → List Stmt) _ (by (conv => lhs; whnf))
  exact fun b _ => b
@[reducible] def sc1159 : Scope := by
  refine (?f : ∀ b : Scope, scop (nth (inner (nth prg.main.body 19)) 1) = b → Scope) _ (by (conv => lhs; whnf))
  exact fun b _ => b
def ob1159 (_ : Params) : Obj := ⟨(.type "function"), none, .func (fnOf (Str.ofString "__init__") (Str.ofString "CanMessage.__init__") pm1159 bd1159 sc1159 (.ref 1152) .none .none (.str (Str.ofString "isotp.can_message") 1830) none (.ref 1158) .none), [].toArray⟩
def ob1158 (_ : Params) : Obj := ⟨(.type "code"), none, .fields [(.str (Str.ofString "__init__") 1854), (.str (Str.ofString "CanMessage.__init__") 1855), (.str (Str.ofString "/claim/cut.py") 1856), (.int (734) 0), (.int (7) 0), (.int (0) 0), (.int (0) 0), (.int (3) 0), (.ref 1153), (.bool true), (.int (181) 0), (.ref 1154), .none, (.ref 1155), (.ref 1156), (.ref 1157), (.int (1864) 0), (.int (734) 0), (.str (Str.ofString "/claim/cut.py") 1865)].toArray, [].toArray⟩
def ob1152 (_ : Params) : Obj := ⟨(.type "tuple"), none, .seq [(.int (0) 1851), (.int (0) 1852), (.bytes #[] 1853), (.bool false), (.bool false), (.bool false)].toArray 0, [].toArray⟩
@[reducible] def pm762 : Arguments := by
  refine (?f : ∀ b : Arguments, parm (nth (inner (nth prg.main.body 15)) 0) = b → Arguments) _ (by (conv => lhs; whnf))
  exact fun b _ => b
@[reducible] def bd762 : List Stmt := by
  refine (?f : ∀ b : List Stmt, inner (nth (inner (nth prg.main.body 15)) 0) = b → List Stmt) _ (by (conv => lhs; whnf))
  exact fun b _ => b
@[reducible] def sc762 : Scope := by
  refine (?f : ∀ b : Scope, scop (nth (inner (nth prg.main.body 15)) 0) = b → Scope) _ (by (conv => lhs; whnf))
  exact fun b _ => b
def ob762 (_ : Params) : Obj := ⟨(.type "function"), none, .func (fnOf (Str.ofString "get_tx_arbitration_id") (Str.ofString "AbstractAddress.get_tx_arbitration_id") pm762 bd762 sc762 (.ref 755) .none .none (.str (Str.ofString "isotp.address") 913) none (.ref 761) .none), [].toArray⟩
def ob761 (_ : Params) : Obj := ⟨(.type "code"), none, .fields [(.str (Str.ofString "get_tx_arbitration_id") 1384), (.str (Str.ofString "AbstractAddress.get_tx_arbitration_id") 1385), (.str (Str.ofString "/claim/cut.py") 1386), (.int (418) 0), (.int (2) 0), (.int (0) 0), (.int (0) 0), (.int (3) 0), (.ref 756), (.bool true), (.int (181) 0), (.ref 757), .none, (.ref 758), (.ref 759), (.ref 760), (.int (1389) 0), (.int (418) 0), (.str (Str.ofString "/claim/cut.py") 1390)].toArray, [].toArray⟩
def ob755 (_ : Params) : Obj := ⟨(.type "tuple"), none, .seq [(.ref 727)].toArray 0, [].toArray⟩
@[reducible] def pm770 : Arguments := by
  refine (?f : ∀ b : Arguments, parm (nth (inner (nth prg.main.body 15)) 1) = b → Arguments) _ (by (conv => lhs; whnf))
  exact fun b _ => b
@[reducible] def bd770 : List Stmt := by
  refine (?f : ∀ b : List Stmt, inner (nth (inner (nth prg.main.body 15)) 1) = b → List Stmt) _ (by (conv => lhs; whnf))
  exact fun b _ => b
@[reducible] def sc770 : Scope := by
  refine (?f : ∀ b : Scope, scop (nth (inner (nth prg.main.body 15)) 1) = b → Scope) _ (by (conv => lhs; whnf))
  exact fun b _ => b
def ob770 (_ : Params) : Obj := ⟨(.type "function"), none, .func (fnOf (Str.ofString "get_rx_arbitration_id") (Str.ofString "AbstractAddress.get_rx_arbitration_id") pm770 bd770 sc770 (.ref 763) .none .none (.str (Str.ofString "isotp.address") 913) none (.ref 769) .none), [].toArray⟩
def ob769 (_ : Params) : Obj := ⟨(.type "code"), none, .fields [(.str (Str.ofString "get_rx_arbitration_id") 1393), (.str (Str.ofString "AbstractAddress.get_rx_arbitration_id") 1394), (.str (Str.ofString "/claim/cut.py") 1395), (.int (421) 0), (.int (2) 0), (.int (0) 0), (.int (0) 0), (.int (3) 0), (.ref 764), (.bool true), (.int (181) 0), (.ref 765), .none, (.ref 766), (.ref 767), (.ref 768), (.int (1398) 0), (.int (421) 0), (.str (Str.ofString "/claim/cut.py") 1399)].toArray, [].toArray⟩
def ob763 (_ : Params) : Obj := ⟨(.type "tuple"), none, .seq [(.ref 727)].toArray 0, [].toArray⟩
@[reducible] def pm777 : Arguments := by
  refine (?f : ∀ b : Arguments, parm (nth (inner (nth prg.main.body 15)) 2) = b → Arguments) _ (by (conv => lhs; whnf))
  exact fun b _ => b
@[reducible] def bd777 : List Stmt := by
  refine (?f : ∀ b : List Stmt, inner (nth (inner (nth prg.main.body 15)) 2) = b → List Stmt) _ (by (conv => lhs; whnf))
  exact fun b _ => b
@[reducible] def sc777 : Scope := by
  refine (?f : ∀ b : Scope, scop (nth (inner (nth prg.main.body 15)) 2) = b → Scope) _ (by (conv => lhs; whnf))
  exact fun b _ => b
def ob777 (_ : Params) : Obj := ⟨(.type "function"), none, .func (fnOf (Str.ofString "requires_tx_extension_byte") (Str.ofString "AbstractAddress.requires_tx_extension_byte") pm777 bd777 sc777 .none .none .none (.str (Str.ofString "isotp.address") 913) none (.ref 776) .none), [].toArray⟩
def ob776 (_ : Params) : Obj := ⟨(.type "code"), none, .fields [(.str (Str.ofString "requires_tx_extension_byte") 1401), (.str (Str.ofString "AbstractAddress.requires_tx_extension_byte") 1402), (.str (Str.ofString "/claim/cut.py") 1403), (.int (424) 0), (.int (1) 0), (.int (0) 0), (.int (0) 0), (.int (3) 0), (.ref 771), (.bool true), (.int (181) 0), (.ref 772), .none, (.ref 773), (.ref 774), (.ref 775), (.int (1405) 0), (.int (424) 0), (.str (Str.ofString "/claim/cut.py") 1406)].toArray, [].toArray⟩
@[reducible] def pm784 : Arguments := by
  refine (?f : ∀ b : Arguments, parm (nth (inner (nth prg.main.body 15)) 3) = b → Arguments) _ (by (conv => lhs; whnf))
  exact fun b _ => b
@[reducible] def bd784 : List Stmt := by
  refine (?f : ∀ b : List Stmt, inner (nth (inner (nth prg.main.body 15)) 3) = b → List Stmt) _ (by (conv => lhs; whnf))
  exact fun b _ => b
@[reducible] def sc784 : Scope := by
  refine (?f : ∀ b : Scope, scop (nth (inner (nth prg.main.body 15)) 3) = b → Scope) _ (by (conv => lhs; whnf))
  exact fun b _ => b
def ob784 (_ : Params) : Obj := ⟨(.type "function"), none, .func (fnOf (Str.ofString "requires_rx_extension_byte") (Str.ofString "AbstractAddress.requires_rx_extension_byte") pm784 bd784 sc784 .none .none .none (.str (Str.ofString "isotp.address") 913) none (.ref 783) .none), [].toArray⟩
def ob783 (_ : Params) : Obj := ⟨(.type "code"), none, .fields [(.str (Str.ofString "requires_rx_extension_byte") 1408), (.str (Str.ofString "AbstractAddress.requires_rx_extension_byte") 1409), (.str (Str.ofString "/claim/cut.py") 1410), (.int (427) 0), (.int (1) 0), (.int (0) 0), (.int (0) 0), (.int (3) 0), (.ref 778), (.bool true), (.int (181) 0), (.ref 779), .none, (.ref 780), (.ref 781), (.ref 782), (.int (1412) 0), (.int (427) 0), (.str (Str.ofString "/claim/cut.py") 1413)].toArray, [].toArray⟩
@[reducible] def pm791 : Arguments := by
  refine (?f : ∀ b : Arguments, parm (nth (inner (nth prg.main.body 15)) 4) = b → Arguments) _ (by (conv => lhs; whnf))
  exact fun b _ => b
@[reducible] def bd791 : List Stmt := by
  refine (?f : ∀ b : List Stmt, inner (nth (inner (nth prg.main.body 15)) 4) = b → List Stmt) _ (by (conv => lhs; whnf))
  exact fun b _ => b
@[reducible] def sc791 : Scope := by
  refine (?f : ∀ b : Scope, scop (nth (inner (nth prg.main.body 15)) 4) = b → Scope) _ (by (conv => lhs; whnf))
  exact fun b _ => b
def ob791 (_ : Params) : Obj := ⟨(.type "function"), none, .func (fnOf (Str.ofString "get_tx_extension_byte") (Str.ofString "AbstractAddress.get_tx_extension_byte") pm791 bd791 sc791 .none .none .none (.str (Str.ofString "isotp.address") 913) none (.ref 790) .none), [].toArray⟩
def ob790 (_ : Params) : Obj := ⟨(.type "code"), none, .fields [(.str (Str.ofString "get_tx_extension_byte") 1415), (.str (Str.ofString "AbstractAddress.get_tx_extension_byte") 1416), (.str (Str.ofString "/claim/cut.py") 1417), (.int (430) 0), (.int (1) 0), (.int (0) 0), (.int (0) 0), (.int (3) 0), (.ref 785), (.bool true), (.int (181) 0), (.ref 786), .none, (.ref 787), (.ref 788), (.ref 789), (.int (1419) 0), (.int (430) 0), (.str (Str.ofString "/claim/cut.py") 1420)].toArray, [].toArray⟩
@[reducible] def pm798 : Arguments := by
  refine (?f : ∀ b : Arguments, parm (nth (inner (nth prg.main.body 15)) 5) = b → Arguments) _ (by (conv => lhs; whnf))
  exact fun b _ => b
@[reducible] def bd798 : List Stmt := by
  refine (?f : ∀ b : List Stmt, inner (nth (inner (nth prg.main.body 15)) 5) = b → List Stmt) _ (by (conv => lhs; whnf))
  exact fun b _ => b
@[reducible] def sc798 : Scope := by
  refine (?f : ∀ b : Scope, scop (nth (inner (nth prg.main.body 15)) 5) = b → Scope) _ (by (conv => lhs; whnf))
  exact fun b _ => b
def ob798 (_ : Params) : Obj := ⟨(.type "function"), none, .func (fnOf (Str.ofString "get_rx_extension_byte") (Str.ofString "AbstractAddress.get_rx_extension_byte") pm798 bd798 sc798 .none .none .none (.str (Str.ofString "isotp.address") 913) none (.ref 797) .none), [].toArray⟩
def ob797 (_ : Params) : Obj := ⟨(.type "code"), none, .fields [(.str (Str.ofString "get_rx_extension_byte") 1422), (.str (Str.ofString "AbstractAddress.get_rx_extension_byte") 1423), (.str (Str.ofString "/claim/cut.py") 1424), (.int (433) 0), (.int (1) 0), (.int (0) 0), (.int (0) 0), (.int (3) 0), (.ref 792), (.bool true), (.int (181) 0), (.ref 793), .none, (.ref 794), (.ref 795), (.ref 796), (.int (1426) 0), (.int (433) 0), (.str (Str.ofString "/claim/cut.py") 1427)].toArray, [].toArray⟩
@[reducible] def pm805 : Arguments := by
  refine (?f : ∀ b : Arguments, parm (nth (inner (nth prg.main.body 15)) 6) = b → Arguments) _ (by (conv => lhs; whnf))
  exact fun b _ => b
@[reducible] def bd805 : List Stmt := by
  refine (?f : ∀ b : List Stmt, inner (nth (inner (nth prg.main.body 15)) 6) = b → List Stmt) _ (by (conv => lhs; whnf))
  exact fun b _ => b
@[reducible] def sc805 : Scope := by
  refine (?f : ∀ b : Scope, scop (nth (inner (nth prg.main.body 15)) 6) = b → Scope) _ (by (conv => lhs; whnf))
  exact fun b _ => b
def ob805 (_ : Params) : Obj := ⟨(.type "function"), none, .func (fnOf (Str.ofString "is_tx_29bits") (Str.ofString "AbstractAddress.is_tx_29bits") pm805 bd805 sc805 .none .none .none (.str (Str.ofString "isotp.address") 913) none (.ref 804) .none), [].toArray⟩
def ob804 (_ : Params) : Obj := ⟨(.type "code"), none, .fields [(.str (Str.ofString "is_tx_29bits") 1429), (.str (Str.ofString "AbstractAddress.is_tx_29bits") 1430), (.str (Str.ofString "/claim/cut.py") 1431), (.int (436) 0), (.int (1) 0), (.int (0) 0), (.int (0) 0), (.int (3) 0), (.ref 799), (.bool true), (.int (181) 0), (.ref 800), .none, (.ref 801), (.ref 802), (.ref 803), (.int (1433) 0), (.int (436) 0), (.str (Str.ofString "/claim/cut.py") 1434)].toArray, [].toArray⟩
@[reducible] def pm812 : Arguments := by
  refine (?f : ∀ b : Arguments, parm (nth (inner (nth prg.main.body 15)) 7) = b → Arguments) _ (by (conv => lhs; whnf))
  exact fun b _ => b
@[reducible] def bd812 : List Stmt := by
  refine (?f : ∀ b : List Stmt, inner (nth (inner (nth prg.main.body 15)) 7) = b → List Stmt) _ (by (conv => lhs; whnf))
  exact fun b _ => b
@[reducible] def sc812 : Scope := by
  refine (?f : ∀ b : Scope, scop (nth (inner (nth prg.main.body 15)) 7) = b → Scope) _ (by (conv => lhs; whnf))
  exact fun b _ => b
def ob812 (_ : Params) : Obj := ⟨(.type "function"), none, .func (fnOf (Str.ofString "is_rx_29bits") (Str.ofString "AbstractAddress.is_rx_29bits") pm812 bd812 sc812 .none .none .none (.str (Str.ofString "isotp.address") 913) none (.ref 811) .none), [].toArray⟩
def ob811 (_ : Params) : Obj := ⟨(.type "code"), none, .fields [(.str (Str.ofString "is_rx_29bits") 1436), (.str (Str.ofString "AbstractAddress.is_rx_29bits") 1437), (.str (Str.ofString "/claim/cut.py") 1438), (.int (439) 0), (.int (1) 0), (.int (0) 0), (.int (0) 0), (.int (3) 0), (.ref 806), (.bool true), (.int (181) 0), (.ref 807), .none, (.ref 808), (.ref 809), (.ref 810), (.int (1440) 0), (.int (439) 0), (.str (Str.ofString "/claim/cut.py") 1441)].toArray, [].toArray⟩
@[reducible] def pm819 : Arguments := by
  refine (?f : ∀ b : Arguments, parm (nth (inner (nth prg.main.body 15)) 8) = b → Arguments) _ (by (conv => lhs; whnf))
  exact fun b _ => b
@[reducible] def bd819 : List Stmt := by
  refine (?f : ∀ b : List Stmt, inner (nth (inner (nth prg.main.body 15)) 8) = b → List Stmt) _ (by (conv => lhs; whnf))
  exact fun b _ => b
@[reducible] def sc819 : Scope := by
  refine (?f : ∀ b : Scope, scop (nth (inner (nth prg.main.body 15)) 8) = b → Scope) _ (by (conv => lhs; whnf))
  exact fun b _ => b
def ob819 (_ : Params) : Obj := ⟨(.type "function"), none, .func (fnOf (Str.ofString "is_for_me") (Str.ofString "AbstractAddress.is_for_me") pm819 bd819 sc819 .none .none .none (.str (Str.ofString "isotp.address") 913) none (.ref 818) .none), [].toArray⟩
def ob818 (_ : Params) : Obj := ⟨(.type "code"), none, .fields [(.str (Str.ofString "is_for_me") 1443), (.str (Str.ofString "AbstractAddress.is_for_me") 1444), (.str (Str.ofString "/claim/cut.py") 1445), (.int (442) 0), (.int (2) 0), (.int (0) 0), (.int (0) 0), (.int (3) 0), (.ref 813), (.bool true), (.int (181) 0), (.ref 814), .none, (.ref 815), (.ref 816), (.ref 817), (.int (1448) 0), (.int (442) 0), (.str (Str.ofString "/claim/cut.py") 1449)].toArray, [].toArray⟩
@[reducible] def pm826 : Arguments := by
  refine (?f : ∀ b : Arguments, parm (nth (inner (nth prg.main.body 15)) 9) = b → Arguments) _ (by (conv => lhs; whnf))
  exact fun b _ => b
@[reducible] def bd826 : List Stmt := by
  refine (?f : ∀ b : List Stmt, inner (nth (inner (nth prg.main.body 15)) 9) = b → List Stmt) _ (by (conv => lhs; whnf))
  exact fun b _ => b
@[reducible] def sc826 : Scope := by
  refine (?f : ∀ b : Scope, scop (nth (inner (nth prg.main.body 15)) 9) = b → Scope) _ (by (conv => lhs; whnf))
  exact fun b _ => b
def ob826 (_ : Params) : Obj := ⟨(.type "function"), none, .func (fnOf (Str.ofString "get_rx_prefix_size") (Str.ofString "AbstractAddress.get_rx_prefix_size") pm826 bd826 sc826 .none .none .none (.str (Str.ofString "isotp.address") 913) none (.ref 825) .none), [].toArray⟩
def ob825 (_ : Params) : Obj := ⟨(.type "code"), none, .fields [(.str (Str.ofString "get_rx_prefix_size") 1451), (.str (Str.ofString "AbstractAddress.get_rx_prefix_size") 1452), (.str (Str.ofString "/claim/cut.py") 1453), (.int (445) 0), (.int (1) 0), (.int (0) 0), (.int (0) 0), (.int (3) 0), (.ref 820), (.bool true), (.int (181) 0), (.ref 821), .none, (.ref 822), (.ref 823), (.ref 824), (.int (1455) 0), (.int (445) 0), (.str (Str.ofString "/claim/cut.py") 1456)].toArray, [].toArray⟩
@[reducible] def pm833 : Arguments := by
  refine (?f : ∀ b : Arguments, parm (nth (inner (nth prg.main.body 15)) 10) = b → Arguments) _ (by (conv => lhs; whnf))
  exact fun b _ => b
@[reducible] def bd833 : List Stmt := by
  refine (?f : ∀ b : List Stmt, inner (nth (inner (nth prg.main.body 15)) 10) = b → List Stmt) _ (by (conv => lhs; whnf))
  exact fun b _ => b
@[reducible] def sc833 : Scope := by
  refine (?f : ∀ b : Scope, scop (nth (inner (nth prg.main.body 15)) 10) = b → Scope) _ (by (conv => lhs; whnf))
  exact fun b _ => b
def ob833 (_ : Params) : Obj := ⟨(.type "function"), none, .func (fnOf (Str.ofString "get_tx_payload_prefix") (Str.ofString "AbstractAddress.get_tx_payload_prefix") pm833 bd833 sc833 .none .none .none (.str (Str.ofString "isotp.address") 913) none (.ref 832) .none), [].toArray⟩
def ob832 (_ : Params) : Obj := ⟨(.type "code"), none, .fields [(.str (Str.ofString "get_tx_payload_prefix") 1458), (.str (Str.ofString "AbstractAddress.get_tx_payload_prefix") 1459), (.str (Str.ofString "/claim/cut.py") 1460), (.int (448) 0), (.int (1) 0), (.int (0) 0), (.int (0) 0), (.int (3) 0), (.ref 827), (.bool true), (.int (181) 0), (.ref 828), .none, (.ref 829), (.ref 830), (.ref 831), (.int (1462) 0), (.int (448) 0), (.str (Str.ofString "/claim/cut.py") 1463)].toArray, [].toArray⟩
@[reducible] def pm840 : Arguments := by
  refine (?f : ∀ b : Arguments, parm (nth (inner (nth prg.main.body 15)) 11) = b → Arguments) _ (by (conv => lhs; whnf))
  exact fun b _ => b
@[reducible] def bd840 : List Stmt := by
  refine (?f : ∀ b : List Stmt, inner (nth (inner (nth prg.main.body 15)) 11) = b → List Stmt) _ (by (conv => lhs; whnf))
  exact fun b _ => b
@[reducible] def sc840 : Scope := by
  refine (?f : ∀ b : Scope, scop (nth (inner (nth prg.main.body 15)) 11) = b → Scope) _ (by (conv => lhs; whnf))
  exact fun b _ => b
def ob840 (_ : Params) : Obj := ⟨(.type "function"), none, .func (fnOf (Str.ofString "is_partial_address") (Str.ofString "AbstractAddress.is_partial_address") pm840 bd840 sc840 .none .none .none (.str (Str.ofString "isotp.address") 913) none (.ref 839) .none), [].toArray⟩
def ob839 (_ : Params) : Obj := ⟨(.type "code"), none, .fields [(.str (Str.ofString "is_partial_address") 1465), (.str (Str.ofString "AbstractAddress.is_partial_address") 1466), (.str (Str.ofString "/claim/cut.py") 1467), (.int (451) 0), (.int (1) 0), (.int (0) 0), (.int (0) 0), (.int (3) 0), (.ref 834), (.bool true), (.int (181) 0), (.ref 835), .none, (.ref 836), (.ref 837), (.ref 838), (.int (1469) 0), (.int (451) 0), (.str (Str.ofString "/claim/cut.py") 1470)].toArray, [].toArray⟩
@[reducible] def pm847 : Arguments := by
  refine (?f : ∀ b : Arguments, parm (nth (inner (nth prg.main.body 15)) 12) = b → Arguments) _ (by (conv => lhs; whnf))
  exact fun b _ => b
@[reducible] def bd847 : List Stmt := by
  refine (?f : ∀ b : List Stmt, inner (nth (inner (nth prg.main.body 15)) 12) = b → List Stmt) _ (by (conv => lhs; whnf))
  exact fun b _ => b
@[reducible] def sc847 : Scope := by
  refine (?f : ∀ b : Scope, scop (nth (inner (nth prg.main.body 15)) 12) = b → Scope) _ (by (conv => lhs; whnf))
  exact fun b _ => b
def ob847 (_ : Params) : Obj := ⟨(.type "function"), none, .func (fnOf (Str.ofString "get_content_str") (Str.ofString "AbstractAddress.get_content_str") pm847 bd847 sc847 .none .none .none (.str (Str.ofString "isotp.address") 913) none (.ref 846) .none), [].toArray⟩
def ob846 (_ : Params) : Obj := ⟨(.type "code"), none, .fields [(.str (Str.ofString "get_content_str") 1472), (.str (Str.ofString "AbstractAddress.get_content_str") 1473), (.str (Str.ofString "/claim/cut.py") 1474), (.int (454) 0), (.int (1) 0), (.int (0) 0), (.int (0) 0), (.int (3) 0), (.ref 841), (.bool true), (.int (181) 0), (.ref 842), .none, (.ref 843), (.ref 844), (.ref 845), (.int (1476) 0), (.int (454) 0), (.str (Str.ofString "/claim/cut.py") 1477)].toArray, [].toArray⟩
def KF (P : Params) : Frag := (nat_lit 3, ob3 P) ::
  (nat_lit 2, ob2 P) ::
  (nat_lit 1036, ob1036 P) ::
  (nat_lit 1035, ob1035 P) ::
  (nat_lit 1141, ob1141 P) ::
  (nat_lit 1140, ob1140 P) ::
  (nat_lit 1163, ob1163 P) ::
  (nat_lit 1162, ob1162 P) ::
  (nat_lit 1164, ob1164 P) ::
  (nat_lit 1165, ob1165 P) ::
  (nat_lit 1166, ob1166 P) ::
  (nat_lit 1167, ob1167 P) ::
  (nat_lit 1168, ob1168 P) ::
  (nat_lit 1169, ob1169 P) ::
  (nat_lit 618, ob618 P) ::
  (nat_lit 617, ob617 P) ::
  (nat_lit 643, ob643 P) ::
  (nat_lit 642, ob642 P) ::
  (nat_lit 645, ob645 P) ::
  (nat_lit 644, ob644 P) ::
  (nat_lit 647, ob647 P) ::
  (nat_lit 646, ob646 P) ::
  (nat_lit 649, ob649 P) ::
  (nat_lit 648, ob648 P) ::
  (nat_lit 651, ob651 P) ::
  (nat_lit 650, ob650 P) ::
  (nat_lit 653, ob653 P) ::
  (nat_lit 652, ob652 P) ::
  (nat_lit 655, ob655 P) ::
  (nat_lit 654, ob654 P) ::
  (nat_lit 702, ob702 P) ::
  (nat_lit 701, ob701 P) ::
  (nat_lit 727, ob727 P) ::
  (nat_lit 726, ob726 P) ::
  (nat_lit 729, ob729 P) ::
  (nat_lit 728, ob728 P) ::
  (nat_lit 850, ob850 P) ::
  (nat_lit 849, ob849 P) ::
  (nat_lit 585, ob585 P) ::
  (nat_lit 584, ob584 P) ::
  (nat_lit 419, ob419 P) ::
  (nat_lit 418, ob418 P) ::
  (nat_lit 371, ob371 P) ::
  (nat_lit 1178, ob1178 P) ::
  (nat_lit 1177, ob1177 P) ::
  (nat_lit 1185, ob1185 P) ::
  (nat_lit 1184, ob1184 P) ::
  (nat_lit 1192, ob1192 P) ::
  (nat_lit 1191, ob1191 P) ::
  (nat_lit 869, ob869 P) ::
  (nat_lit 868, ob868 P) ::
  (nat_lit 862, ob862 P) ::
  (nat_lit 876, ob876 P) ::
  (nat_lit 875, ob875 P) ::
  (nat_lit 883, ob883 P) ::
  (nat_lit 882, ob882 P) ::
  (nat_lit 890, ob890 P) ::
  (nat_lit 889, ob889 P) ::
  (nat_lit 897, ob897 P) ::
  (nat_lit 896, ob896 P) ::
  (nat_lit 904, ob904 P) ::
  (nat_lit 903, ob903 P) ::
  (nat_lit 911, ob911 P) ::
  (nat_lit 910, ob910 P) ::
  (nat_lit 918, ob918 P) ::
  (nat_lit 917, ob917 P) ::
  (nat_lit 926, ob926 P) ::
  (nat_lit 925, ob925 P) ::
  (nat_lit 919, ob919 P) ::
  (nat_lit 934, ob934 P) ::
  (nat_lit 933, ob933 P) ::
  (nat_lit 927, ob927 P) ::
  (nat_lit 941, ob941 P) ::
  (nat_lit 940, ob940 P) ::
  (nat_lit 949, ob949 P) ::
  (nat_lit 948, ob948 P) ::
  (nat_lit 942, ob942 P) ::
  (nat_lit 956, ob956 P) ::
  (nat_lit 955, ob955 P) ::
  (nat_lit 963, ob963 P) ::
  (nat_lit 962, ob962 P) ::
  (nat_lit 970, ob970 P) ::
  (nat_lit 969, ob969 P) ::
  (nat_lit 977, ob977 P) ::
  (nat_lit 976, ob976 P) ::
  (nat_lit 984, ob984 P) ::
  (nat_lit 983, ob983 P) ::
  (nat_lit 991, ob991 P) ::
  (nat_lit 990, ob990 P) ::
  (nat_lit 998, ob998 P) ::
  (nat_lit 997, ob997 P) ::
  (nat_lit 1005, ob1005 P) ::
  (nat_lit 1004, ob1004 P) ::
  (nat_lit 1012, ob1012 P) ::
  (nat_lit 1011, ob1011 P) ::
  (nat_lit 1019, ob1019 P) ::
  (nat_lit 1018, ob1018 P) ::
  (nat_lit 1026, ob1026 P) ::
  (nat_lit 1025, ob1025 P) ::
  (nat_lit 1033, ob1033 P) ::
  (nat_lit 1032, ob1032 P) ::
  (nat_lit 1052, ob1052 P) ::
  (nat_lit 1051, ob1051 P) ::
  (nat_lit 1059, ob1059 P) ::
  (nat_lit 1058, ob1058 P) ::
  (nat_lit 1066, ob1066 P) ::
  (nat_lit 1065, ob1065 P) ::
  (nat_lit 1073, ob1073 P) ::
  (nat_lit 1072, ob1072 P) ::
  (nat_lit 1081, ob1081 P) ::
  (nat_lit 1080, ob1080 P) ::
  (nat_lit 1074, ob1074 P) ::
  (nat_lit 1089, ob1089 P) ::
  (nat_lit 1088, ob1088 P) ::
  (nat_lit 1082, ob1082 P) ::
  (nat_lit 1096, ob1096 P) ::
  (nat_lit 1095, ob1095 P) ::
  (nat_lit 1103, ob1103 P) ::
  (nat_lit 1102, ob1102 P) ::
  (nat_lit 1110, ob1110 P) ::
  (nat_lit 1109, ob1109 P) ::
  (nat_lit 1117, ob1117 P) ::
  (nat_lit 1116, ob1116 P) ::
  (nat_lit 1124, ob1124 P) ::
  (nat_lit 1123, ob1123 P) ::
  (nat_lit 1131, ob1131 P) ::
  (nat_lit 1130, ob1130 P) ::
  (nat_lit 1138, ob1138 P) ::
  (nat_lit 1137, ob1137 P) ::
  (nat_lit 1159, ob1159 P) ::
  (nat_lit 1158, ob1158 P) ::
  (nat_lit 1152, ob1152 P) ::
  (nat_lit 762, ob762 P) ::
  (nat_lit 761, ob761 P) ::
  (nat_lit 755, ob755 P) ::
  (nat_lit 770, ob770 P) ::
  (nat_lit 769, ob769 P) ::
  (nat_lit 763, ob763 P) ::
  (nat_lit 777, ob777 P) ::
  (nat_lit 776, ob776 P) ::
  (nat_lit 784, ob784 P) ::
  (nat_lit 783, ob783 P) ::
  (nat_lit 791, ob791 P) ::
  (nat_lit 790, ob790 P) ::
  (nat_lit 798, ob798 P) ::
  (nat_lit 797, ob797 P) ::
  (nat_lit 805, ob805 P) ::
  (nat_lit 804, ob804 P) ::
  (nat_lit 812, ob812 P) ::
  (nat_lit 811, ob811 P) ::
  (nat_lit 819, ob819 P) ::
  (nat_lit 818, ob818 P) ::
  (nat_lit 826, ob826 P) ::
  (nat_lit 825, ob825 P) ::
  (nat_lit 833, ob833 P) ::
  (nat_lit 832, ob832 P) ::
  (nat_lit 840, ob840 P) ::
  (nat_lit 839, ob839 P) ::
  (nat_lit 847, ob847 P) ::
  (nat_lit 846, ob846 P) :: []
def Kas : List Addr := [nat_lit 3, nat_lit 2, nat_lit 1036, nat_lit 1035, nat_lit 1141, nat_lit 1140, nat_lit 1163, nat_lit 1162, nat_lit 1164, nat_lit 1165, nat_lit 1166, nat_lit 1167, nat_lit 1168, nat_lit 1169, nat_lit 618, nat_lit 617, nat_lit 643, nat_lit 642, nat_lit 645, nat_lit 644, nat_lit 647, nat_lit 646, nat_lit 649, nat_lit 648, nat_lit 651, nat_lit 650, nat_lit 653, nat_lit 652, nat_lit 655, nat_lit 654, nat_lit 702, nat_lit 701, nat_lit 727, nat_lit 726, nat_lit 729, nat_lit 728, nat_lit 850, nat_lit 849, nat_lit 585, nat_lit 584, nat_lit 419, nat_lit 418, nat_lit 371, nat_lit 1178, nat_lit 1177, nat_lit 1185, nat_lit 1184, nat_lit 1192, nat_lit 1191, nat_lit 869, nat_lit 868, nat_lit 862, nat_lit 876, nat_lit 875, nat_lit 883, nat_lit 882, nat_lit 890, nat_lit 889, nat_lit 897, nat_lit 896, nat_lit 904, nat_lit 903, nat_lit 911, nat_lit 910, nat_lit 918, nat_lit 917, nat_lit 926, nat_lit 925, nat_lit 919, nat_lit 934, nat_lit 933, nat_lit 927, nat_lit 941, nat_lit 940, nat_lit 949, nat_lit 948, nat_lit 942, nat_lit 956, nat_lit 955, nat_lit 963, nat_lit 962, nat_lit 970, nat_lit 969, nat_lit 977, nat_lit 976, nat_lit 984, nat_lit 983, nat_lit 991, nat_lit 990, nat_lit 998, nat_lit 997, nat_lit 1005, nat_lit 1004, nat_lit 1012, nat_lit 1011, nat_lit 1019, nat_lit 1018, nat_lit 1026, nat_lit 1025, nat_lit 1033, nat_lit 1032, nat_lit 1052, nat_lit 1051, nat_lit 1059, nat_lit 1058, nat_lit 1066, nat_lit 1065, nat_lit 1073, nat_lit 1072, nat_lit 1081, nat_lit 1080, nat_lit 1074, nat_lit 1089, nat_lit 1088, nat_lit 1082, nat_lit 1096, nat_lit 1095, nat_lit 1103, nat_lit 1102, nat_lit 1110, nat_lit 1109, nat_lit 1117, nat_lit 1116, nat_lit 1124, nat_lit 1123, nat_lit 1131, nat_lit 1130, nat_lit 1138, nat_lit 1137, nat_lit 1159, nat_lit 1158, nat_lit 1152, nat_lit 762, nat_lit 761, nat_lit 755, nat_lit 770, nat_lit 769, nat_lit 763, nat_lit 777, nat_lit 776, nat_lit 784, nat_lit 783, nat_lit 791, nat_lit 790, nat_lit 798, nat_lit 797, nat_lit 805, nat_lit 804, nat_lit 812, nat_lit 811, nat_lit 819, nat_lit 818, nat_lit 826, nat_lit 825, nat_lit 833, nat_lit 832, nat_lit 840, nat_lit 839, nat_lit 847, nat_lit 846]

section
variable {prog : Program} {w : World} {A : Around} {E : Value → Shared → Prop} {s : Shared} {KK : Frag} {x y C D : Addr} {ox oy : Obj} {od od' : Option Obj}

theorem ifBound_B {M : Model} {name : Str} {id B : String} {args : List Value} {Q : Option Value → Shared → Prop} (X : KK.In s.heap) (I : InstAt s.heap x ox C od) (hs : findIn KK (.ref C) name = some (some (.builtin id))) (S : Slot B name id)
    (h : wpAny M A (call (.builtin id) (.ref x :: args)) (fun v => Q (some v)) E s) : wpAny M A (callSpecialIfBound? (.ref x) name args) Q E s := by
  simp only [callSpecialIfBound?, bindSpecialIfBound?]
  refine wpAny_holding (wpAny_bind (wpAny_bind (wpAny_bind (I.type.here ((looks_findIn X hs).here ?_)))))
  simp only [S.bind]
  refine wpAny_bind (wpAny_askSetting (wpAny_ite ?_))
  have fin : wpAny M A (call (.builtin id) ([.ref x] ++ args) >>= fun v => pure (some v)) Q E s := wpAny_bind (wpAny_mono h (fun v s' h' => wpAny_pure h') fun _ _ h' => h')
  split
  · exact wpAny_bind (wpAny_pure (by exact wpAny_pure fin))
  · exact wpAny_tryCatch (wpAny_bind (wpAny_pure (by exact wpAny_pure fin)))

theorem tryEq_other {Q : Option Value → Shared → Prop} (X : KK.In s.heap) (I : InstAt s.heap x ox C od) (J : InstAt s.heap y oy D od') (hxy : x ≠ y) (hs : findIn KK (.ref C) "__eq__" = some (some (.builtin "object.__eq__"))) (hm : mroIn KK C (.type "object") = some true)
    (hq : Q none s) : wpAny (model prog w) A (tryCompare (.ref x) "__eq__" (.ref y)) Q E s := by
  unfold tryCompare
  have hi : Looks (model prog w) s.heap (isInstance (.ref x) (.type "object")) true := I.type.andThen (looks_subIn X (t := .ref C) hm)
  have hnt : ox.cls ≠ .type "tuple" := by rw [I.cls]; intro e; cases e
  refine wpAny_bind (ifBound_B X I hs F.cmp_object.eq ?_)
  refine wpAny_call (codeAny_call_builtin (id := "object.__eq__") F.cmp_object.eq.plain F.cmpEntry_eq ?_)
  refine check_slot (i := "object.__eq__") (owner := "object") (n := "__eq__") F.cmpKind_eq F.cmpSplit_eq hi (F.cmpArgs_eq _ _) ?_
  exact objEq_entry_other hxy I.at_ J.at_ hnt (wpAny_pure hq)

theorem richEq_other {Q : Value → Shared → Prop} (hu : A.units < cLine) (X : KK.In s.heap) (I : InstAt s.heap x ox C od) (J : InstAt s.heap y oy C od') (hxy : x ≠ y) (hs : findIn KK (.ref C) "__eq__" = some (some (.builtin "object.__eq__"))) (hm : mroIn KK C (.type "object") = some true)
    (hq : Q (.bool false) s) : wpAny (model prog w) A (richCompare .Eq (.ref x) (.ref y)) Q E s := by
  unfold richCompare
  simp only [oneThing_ref, cmpInfo_Eq]
  refine wpAny_holding (wpAny_bind (wpAny_cRoomFor hu ?_))
  refine wpAny_bind (I.type.here (wpAny_bind (J.type.here ?_)))
  rw [if_neg (by simp)]
  refine wpAny_bind (wpAny_pure ?_)
  simp only [Bool.false_eq_true, if_false, Bool.not_false, if_true]
  refine wpAny_bind (tryEq_other X I J hxy hs hm ?_)
  refine wpAny_bind (tryEq_other X J I hxy.symm hs hm ?_)
  dsimp only
  have hnt : ox.cls ≠ .type "tuple" := by rw [I.cls]; intro e; cases e
  refine wpAny_bind (wpAny_rule ?_)
  exact wpAny_bind (wpAny_isSame_ref_other hxy I.at_ J.at_ hnt (wpAny_pure hq))

theorem tryEq_same {Q : Option Value → Shared → Prop} (X : KK.In s.heap) (I : InstAt s.heap x ox C od) (hs : findIn KK (.ref C) "__eq__" = some (some (.builtin "object.__eq__"))) (hm : mroIn KK C (.type "object") = some true)
    (hq : Q (some (.bool true)) s) : wpAny (model prog w) A (tryCompare (.ref x) "__eq__" (.ref x)) Q E s := by
  unfold tryCompare
  have hi : Looks (model prog w) s.heap (isInstance (.ref x) (.type "object")) true := I.type.andThen (looks_subIn X (t := .ref C) hm)
  refine wpAny_bind (ifBound_B X I hs F.cmp_object.eq ?_)
  refine wpAny_call (codeAny_call_builtin (id := "object.__eq__") F.cmp_object.eq.plain F.cmpEntry_eq ?_)
  refine check_slot (i := "object.__eq__") (owner := "object") (n := "__eq__") F.cmpKind_eq F.cmpSplit_eq hi (F.cmpArgs_eq _ _) ?_
  exact objEq_entry_same (wpAny_pure hq)

theorem richEq_same {Q : Value → Shared → Prop} (hu : A.units < cLine) (X : KK.In s.heap) (I : InstAt s.heap x ox C od) (hs : findIn KK (.ref C) "__eq__" = some (some (.builtin "object.__eq__"))) (hm : mroIn KK C (.type "object") = some true)
    (hq : Q (.bool true) s) : wpAny (model prog w) A (richCompare .Eq (.ref x) (.ref x)) Q E s := by
  unfold richCompare
  simp only [oneThing_ref, cmpInfo_Eq]
  refine wpAny_holding (wpAny_bind (wpAny_cRoomFor hu ?_))
  refine wpAny_bind (I.type.here (wpAny_bind (I.type.here ?_)))
  rw [if_neg (by simp)]
  refine wpAny_bind (wpAny_pure ?_)
  simp only [Bool.false_eq_true, if_false, Bool.not_false, if_true]
  refine wpAny_bind (tryEq_same X I hs hm ?_)
  dsimp only
  exact wpAny_pure hq

/-- the members of the two written-out enums of the program, where they lie -/
def Mem (C : Addr) (a : Addr) : Prop := (C = 618 ∧ (a = 643 ∨ a = 645 ∨ a = 647 ∨ a = 649 ∨ a = 651 ∨ a = 653 ∨ a = 655)) ∨ (C = 702 ∧ (a = 727 ∨ a = 729))
theorem Mem.at {P : Params} {h : Heap} {C a : Addr} (X : (KF P).In h) (m : Mem C a) : ∃ ox od, InstAt h a ox C od := by
  rcases m with ⟨rfl, rfl | rfl | rfl | rfl | rfl | rfl | rfl⟩ | ⟨rfl, rfl | rfl⟩ <;> exact ⟨_, _, InstAt.of_K X rfl rfl⟩
theorem Mem.eqs (P : Params) {C a : Addr} (m : Mem C a) : findIn (KF P) (.ref C) "__eq__" = some (some (.builtin "object.__eq__")) ∧ mroIn (KF P) C (.type "object") = some true := by
  rcases m with ⟨rfl, _⟩ | ⟨rfl, _⟩ <;> exact ⟨rfl, rfl⟩

theorem cmpEq_mem {P : Params} {a b : Addr} {Q : Value → Shared → Prop} (hu : A.units < cLine) (X : (KF P).In s.heap) (ma : Mem C a) (mb : Mem C b) (hq : Q (.bool (decide (a = b))) s) : wpAny (model prog w) A (richCompare .Eq (.ref a) (.ref b)) Q E s := by
  obtain ⟨ox, od, I⟩ := ma.at X
  obtain ⟨oy, od', J⟩ := mb.at X
  obtain ⟨e1, e2⟩ := ma.eqs P
  by_cases h : a = b
  · subst h
    exact richEq_same hu X I e1 e2 (by simpa using hq)
  · exact richEq_other hu X I J h e1 e2 (by simpa [h] using hq)
theorem eqAt_mem {P : Params} {a b : Addr} (hu : A.units < cLine) (X : (KF P).In s.heap) (ma : Mem C a) (mb : Mem C b) {Q : Bool → Shared → Prop} (hq : Q (decide (a = b)) s) : wpAny (model prog w) A (eqBool (.ref a) (.ref b)) Q E s := by
  unfold eqBool
  by_cases h : a = b
  · subst h
    simp only [beq_self_eq_true, if_true]
    repeat wp_step
    simpa using hq
  · rw [if_neg (by simpa using h)]
    refine wpAny_holding ?_
    dsimp only
    refine wpAny_bind (cmpEq_mem hu X ma mb ?_)
    rw [decide_eq_false h]
    unfold truthOfDropped
    wp_walk
    simpa [h] using hq
end


/-! the dict of an object, told by numbers of names -/
inductive Nm : Str → Nat → Prop
  | a0 : Nm (Str.ofString "_rx_only") 0
  | a1 : Nm (Str.ofString "_tx_only") 1
  | a2 : Nm (Str.ofString "_addressing_mode") 2
  | a3 : Nm (Str.ofString "_target_address") 3
  | a4 : Nm (Str.ofString "_source_address") 4
  | a5 : Nm (Str.ofString "_address_extension") 5
  | a6 : Nm (Str.ofString "_txid") 6
  | a7 : Nm (Str.ofString "_rxid") 7
  | a8 : Nm (Str.ofString "_is_29bits") 8
  | a9 : Nm (Str.ofString "physical_id") 9
  | a10 : Nm (Str.ofString "functional_id") 10
  | a11 : Nm (Str.ofString "_tx_payload_prefix") 11
  | a12 : Nm (Str.ofString "_rx_prefix_size") 12
  | a13 : Nm (Str.ofString "_rx_arbitration_id_physical") 13
  | a14 : Nm (Str.ofString "_rx_arbitration_id_functional") 14
  | a15 : Nm (Str.ofString "_tx_arbitration_id_physical") 15
  | a16 : Nm (Str.ofString "_tx_arbitration_id_functional") 16
/-- the methods: where their functions lie -/
inductive Mt : Str → Nat → Addr → Prop
  | m20 : Mt (Str.ofString "validate") 20 876
  | m21 : Mt (Str.ofString "is_partial_address") 21 883
  | m22 : Mt (Str.ofString "is_tx_only") 22 890
  | m23 : Mt (Str.ofString "is_rx_only") 23 897
  | m24 : Mt (Str.ofString "get_rx_prefix_size") 24 904
  | m25 : Mt (Str.ofString "get_tx_payload_prefix") 25 911
  | m26 : Mt (Str.ofString "is_for_me") 26 918
  | m27 : Mt (Str.ofString "get_tx_arbitration_id") 27 926
  | m28 : Mt (Str.ofString "get_rx_arbitration_id") 28 934
  | m29 : Mt (Str.ofString "_get_tx_arbitration_id") 29 941
  | m30 : Mt (Str.ofString "_get_rx_arbitration_id") 30 949
  | m31 : Mt (Str.ofString "_is_for_me_normal") 31 956
  | m32 : Mt (Str.ofString "_is_for_me_extended") 32 963
  | m33 : Mt (Str.ofString "_is_for_me_normal_fixed") 33 970
  | m34 : Mt (Str.ofString "_is_for_me_mixed_11bits") 34 977
  | m35 : Mt (Str.ofString "_is_for_me_mixed_29bits") 35 984
  | m36 : Mt (Str.ofString "_requires_extension_byte") 36 991
  | m37 : Mt (Str.ofString "requires_rx_extension_byte") 37 998
  | m38 : Mt (Str.ofString "requires_tx_extension_byte") 38 1005
  | m39 : Mt (Str.ofString "get_tx_extension_byte") 39 1012
  | m40 : Mt (Str.ofString "get_rx_extension_byte") 40 1019
  | m41 : Mt (Str.ofString "is_tx_29bits") 41 1026
  | m42 : Mt (Str.ofString "is_rx_29bits") 42 1033

def names : List Str := [Str.ofString "_rx_only", Str.ofString "_tx_only", Str.ofString "_addressing_mode", Str.ofString "_target_address", Str.ofString "_source_address", Str.ofString "_address_extension", Str.ofString "_txid", Str.ofString "_rxid", Str.ofString "_is_29bits", Str.ofString "physical_id", Str.ofString "functional_id", Str.ofString "_tx_payload_prefix", Str.ofString "_rx_prefix_size", Str.ofString "_rx_arbitration_id_physical", Str.ofString "_rx_arbitration_id_functional", Str.ofString "_tx_arbitration_id_physical", Str.ofString "_tx_arbitration_id_functional",
  Str.ofString "-17", Str.ofString "-18", Str.ofString "-19", Str.ofString "validate", Str.ofString "is_partial_address", Str.ofString "is_tx_only", Str.ofString "is_rx_only", Str.ofString "get_rx_prefix_size", Str.ofString "get_tx_payload_prefix", Str.ofString "is_for_me", Str.ofString "get_tx_arbitration_id", Str.ofString "get_rx_arbitration_id", Str.ofString "_get_tx_arbitration_id", Str.ofString "_get_rx_arbitration_id", Str.ofString "_is_for_me_normal", Str.ofString "_is_for_me_extended", Str.ofString "_is_for_me_normal_fixed", Str.ofString "_is_for_me_mixed_11bits", Str.ofString "_is_for_me_mixed_29bits", Str.ofString "_requires_extension_byte", Str.ofString "requires_rx_extension_byte", Str.ofString "requires_tx_extension_byte", Str.ofString "get_tx_extension_byte", Str.ofString "get_rx_extension_byte", Str.ofString "is_tx_29bits", Str.ofString "is_rx_29bits"]
theorem names_nodup : names.Nodup := by decide +kernel
theorem Nm.at {x : Str} {i : Nat} (h : Nm x i) : names[i]? = some x := by cases h <;> rfl
theorem Mt.at {x : Str} {i : Nat} {f : Addr} (h : Mt x i f) : names[i]? = some x := by cases h <;> rfl
theorem names_inj {x : Str} {i j : Nat} (h : names[i]? = some x) (k : names[j]? = some x) : i = j := by
  obtain ⟨hi, rfl⟩ := List.getElem?_eq_some_iff.mp h
  obtain ⟨hj, e⟩ := List.getElem?_eq_some_iff.mp k
  have hp := List.pairwise_iff_getElem.mp names_nodup
  rcases Nat.lt_trichotomy i j with h | h | h
  · exact absurd e.symm (hp i j hi hj h)
  · exact h
  · exact absurd e (hp j i hj hi h)

theorem isStr_key {x y : Str} {t : Tok} : (Value.str x t).isStr y = (x == y) := rfl
theorem getL_put {x y : Str} {hs : Int} {t : Tok} {v : Value} (hxy : x ≠ y) : ∀ es : List DictEntry, getL y (putL x hs (.str x t) v es) = getL y es
  | [] => by
    have h : (x == y) = false := by simpa using hxy
    simp [putL, getL, isStr_key, h, DictEntry.refKey]
  | e :: r => by
    have ih := getL_put (hs := hs) (t := t) (v := v) hxy r
    unfold putL
    split
    · rename_i h
      have h' : e.key.isStr y = false := by
        cases hk : e.key with
        | str z u =>
          rw [hk] at h
          have hz : z = x := by simpa [Value.isStr] using h
          rw [hz]
          simpa [Value.isStr] using hxy
        | _ => rw [hk] at h; cases h
      simp [getL, h', DictEntry.refKey]
    · unfold getL at ih ⊢
      simp only [List.find?_cons, List.any_cons]
      cases hk : e.key.isStr y with
      | true => rfl
      | false =>
        simp only
        cases hf : List.find? (fun z => z.key.isStr y) (putL x hs (.str x t) v r) with
        | some a =>
          rw [hf] at ih
          cases hg : List.find? (fun z => z.key.isStr y) r with
          | some b => rw [hg] at ih; exact ih
          | none =>
            rw [hg] at ih
            simp only at ih
            split at ih <;> cases ih
        | none =>
          rw [hf] at ih
          cases hg : List.find? (fun z => z.key.isStr y) r with
          | some b => rw [hg] at ih; simp only at ih; split at ih <;> cases ih
          | none =>
            rw [hg] at ih
            simp only at ih ⊢
            by_cases hr : e.refKey = true
            · simp [hr]
            · have hr' : e.refKey = false := by simpa using hr
              simpa [hr'] using ih
theorem getL_self {x : Str} {hs : Int} {t : Tok} {v : Value} : ∀ es : List DictEntry, getL x (putL x hs (.str x t) v es) = some (some v)
  | [] => by simp [putL, getL, isStr_key]
  | e :: r => by
    have ih := getL_self (x := x) (hs := hs) (t := t) (v := v) r
    unfold putL
    split
    · rename_i h
      simp [getL, h]
    · rename_i h
      unfold getL at ih ⊢
      simp only [List.find?_cons]
      have h' : e.key.isStr x = false := by simpa using h
      rw [h']
      simp only
      cases hf : List.find? (fun z => z.key.isStr x) (putL x hs (.str x t) v r) with
      | some a => rw [hf] at ih; exact ih
      | none => rw [hf] at ih; simp only at ih; split at ih <;> cases ih
theorem putL_len {x : Str} {hs : Int} {k v : Value} : ∀ es : List DictEntry, (putL x hs k v es).length ≤ es.length + 1
  | [] => Nat.le_refl _
  | e :: r => by
    unfold putL
    split
    · simp
    · simpa using putL_len r

def Has (es : List DictEntry) (al : List (Nat × Value)) : Prop :=
  (∀ x i, names[i]? = some x → getL x es = some (al.lookup i)) ∧ es.length ≤ al.length
theorem has_nil : Has [] [] := ⟨fun _ _ _ => rfl, Nat.le_refl _⟩
theorem Has.put {es : List DictEntry} {al : List (Nat × Value)} {x : Str} {i : Nat} (H : Has es al) (hn : Nm x i) (hs : Int) (t : Tok) (v : Value) : Has (putL x hs (.str x t) v es) ((i, v) :: al) := by
  refine ⟨fun y j hj => ?_, Nat.le_trans (putL_len es) (Nat.succ_le_succ H.2)⟩
  by_cases h : i = j
  · subst h
    obtain rfl : x = y := by
      have := hn.at.symm.trans hj
      exact Option.some.inj this
    rw [getL_self, List.lookup_cons]
    simp
  · have hxy : x ≠ y := fun e => h (names_inj (x := x) hn.at (e ▸ hj))
    rw [getL_put hxy, H.1 y j hj, List.lookup_cons]
    have : (j == i) = false := by simpa using fun e : j = i => h e.symm
    rw [this]
theorem Has.get {es : List DictEntry} {al : List (Nat × Value)} {x : Str} {i : Nat} {v : Value} (H : Has es al) (hn : Nm x i) (e : al.lookup i = some v) : getL x es = some (some v) := by rw [H.1 x i hn.at, e]
theorem Has.no {es : List DictEntry} {al : List (Nat × Value)} {x : Str} {i : Nat} {f : Addr} (H : Has es al) (hn : Mt x i f) (e : al.lookup i = none) : getL x es = some none := by rw [H.1 x i hn.at, e]

/-- what the class says of an attribute's name -/
theorem Nm.own (w : World) {x : Str} {i : Nat} (h : Nm x i) : plainGet (KF w.params) 1036 x = true ∧ hasDictIn (KF w.params) 1036 = true ∧ findIn (KF w.params) (.ref 1036) x = some none ∧ takerIn (KF w.params) 1036 x = some none := by
  cases h <;> exact ⟨by kernel_rfl, by kernel_rfl, by kernel_rfl, by kernel_rfl⟩
theorem Mt.own (w : World) {x : Str} {i : Nat} {f : Addr} (h : Mt x i f) : plainGet (KF w.params) 1036 x = true ∧ findIn (KF w.params) (.ref 1036) x = some (some (.ref f)) ∧ isFn (KF w.params) (.ref f) = true := by
  cases h <;> exact ⟨by kernel_rfl, by kernel_rfl, by kernel_rfl⟩

abbrev Led := List (Addr × Obj)
/-- the enums' members by their names -/
inductive En : Str → Addr → Str → Addr → Prop
  | n11 : En (Str.ofString "AddressingMode") 618 (Str.ofString "Normal_11bits") 643
  | n29 : En (Str.ofString "AddressingMode") 618 (Str.ofString "Normal_29bits") 645
  | f29 : En (Str.ofString "AddressingMode") 618 (Str.ofString "NormalFixed_29bits") 647
  | e11 : En (Str.ofString "AddressingMode") 618 (Str.ofString "Extended_11bits") 649
  | e29 : En (Str.ofString "AddressingMode") 618 (Str.ofString "Extended_29bits") 651
  | m11 : En (Str.ofString "AddressingMode") 618 (Str.ofString "Mixed_11bits") 653
  | m29 : En (Str.ofString "AddressingMode") 618 (Str.ofString "Mixed_29bits") 655
  | phy : En (Str.ofString "TargetAddressType") 702 (Str.ofString "Physical") 727
  | fun_ : En (Str.ofString "TargetAddressType") 702 (Str.ofString "Functional") 729
theorem En.mem {c n : Str} {C a : Addr} (h : En c C n a) : Mem C a := by
  cases h <;> simp [Mem]
theorem En.cls (w : World) {c n : Str} {C a : Addr} (h : En c C n a) : nsIn (KF w.params) mainGlobals c = some (some (.ref C)) ∧ readsIn (KF w.params) C (.ref 419) = true ∧ findCls (KF w.params) (.ref C) (.ref 419) n = some (.val (.ref a)) ∧ typeIn (KF w.params) (.ref C) = some (.ref 419) := by
  cases h <;> exact ⟨by kernel_rfl, by kernel_rfl, by kernel_rfl, by kernel_rfl⟩

section
variable {prog : Program} {w : World} {A : Around} {E : Value → Shared → Prop} {s : Shared} {h₀ : Heap} {L a x dx : Addr} {m mg mb : Str → Option Value} {cn : Str} {cs : Scope} {ccd : Value} {cl : List (Str × Addr)} {p : Program} {loose : List Str} {mean : ExcName → Option Value} {news rest : Led} {es : List DictEntry} {n : Nat} {al : List (Nat × Value)}

theorem rd {name : Str} {i : Nat} {v : Value} {p₁ p₂ : Pos} {Q : Value → Shared → Prop} (F : Fr h₀ L s.heap m) (X : (KF w.params).In h₀) (N : News h₀ L s.heap news) (h1 : (x, instObj 1036 dx) ∈ news) (h2 : (dx, dictOf es n) ∈ news) (H : Has es al)
    (hm : m (Str.ofString "self") = some (.ref x)) (hn : Nm name i) (hv : al.lookup i = some v) (hh : handedIn v = true) (h : Q v { s with toks := s.toks + 1 })
    (hk : cs.kind = .function := by rfl) (hx : (envX cn cs L a ccd cl).kindOf (Str.ofString "self") = some .local := by rfl) :
    wpAny (model prog w) A (eval (.Attribute (.Name (Str.ofString "self") p₁) name p₂) (envX cn cs L a ccd cl)) Q E s :=
  Attribute_name (nameX_L F hm (get_own F X (InstAt.of_news N h1 h2) (hn.own w).1 (hn.own w).2.1 (hn.own w).2.2.1 (by rfl) (H.get hn hv) hh h) hk hx)

theorem sa {name : Str} {i : Nat} {v : Value} {Q : Unit → Shared → Prop} (F : Fr h₀ L s.heap m) (X : (KF w.params).In h₀) (N : News h₀ L s.heap ((x, instObj 1036 dx) :: (dx, dictOf es n) :: rest)) (hxd : x ≠ dx) (hr : ∀ q ∈ rest, q.1 ≠ dx) (H : Has es al) (hb : al.length ≤ 900)
    (hn : Nm name i)
    (h : ∀ h' es' n', Fr h₀ L h' m → News h₀ L h' ((x, instObj 1036 dx) :: (dx, dictOf es' n') :: rest) → Has es' ((i, v) :: al) → Q () { s with heap := h', toks := s.toks + 2 }) :
    wpAny (model prog w) A (setAttr (.ref x) name v) Q E s :=
  set_dict F X N (InstAt.of_news N (.head _) (.tail _ (.head _))) rfl (by kernel_rfl) (by kernel_rfl) (hn.own w).2.2.2 (hn.own w).2.1 (by rw [H.1 name i hn.at]; rfl) rfl (.tail hxd (.head hr))
    (by have := putL_len (x := name) (hs := PyData.keyHash w.params name) (k := .str name (s.toks + 1)) (v := v) es; have := H.2; omega)
    fun h' F' N' => h h' _ _ F' N' (H.put hn _ _ v)

/-- self.name = y -/
theorem asn {name y : Str} {i : Nat} {v : Value} {p₁ p₂ p₃ p₄ : Pos} {Q : Flow → Shared → Prop} (F : Fr h₀ L s.heap m) (X : (KF w.params).In h₀) (N : News h₀ L s.heap ((x, instObj 1036 dx) :: (dx, dictOf es n) :: rest)) (hxd : x ≠ dx) (hr : ∀ q ∈ rest, q.1 ≠ dx) (H : Has es al) (hb : al.length ≤ 900)
    (hm : m (Str.ofString "self") = some (.ref x)) (hy : m y = some v) (hn : Nm name i)
    (h : ∀ h' es' n', Fr h₀ L h' m → News h₀ L h' ((x, instObj 1036 dx) :: (dx, dictOf es' n') :: rest) → Has es' ((i, v) :: al) → Q .next { s with heap := h', toks := s.toks + 2 })
    (hk : cs.kind = .function := by rfl) (hx : (envX cn cs L a ccd cl).kindOf (Str.ofString "self") = some .local := by rfl) (hx' : (envX cn cs L a ccd cl).kindOf y = some .local := by rfl) (hd : (y == ("__debug__" : Str)) = false := by decide)
    (hs : swapsWith (.Name y p₁) (some (.Attribute (.Name (Str.ofString "self") p₂) name p₃)) p₄.line (envX cn cs L a ccd cl) = pure false := by rfl) :
    wpAny (model prog w) A (exec (.Assign [.Attribute (.Name (Str.ofString "self") p₂) name p₃] (.Name y p₁) p₄) (envX cn cs L a ccd cl)) Q E s :=
  plainObj_wpAny_Assign_Attribute (nameX_L F hy (nameX_L F hm (sa F X N hxd hr H hb hn h) hk hx) hk hx' hd) hs

/-- self.name = e -/
theorem ase {name : Str} {e : Expr} {i : Nat} {p₂ p₃ p₄ : Pos} {Q : Flow → Shared → Prop}
    (h : wpAny (model prog w) A (eval e (envX cn cs L a ccd cl)) (fun v s₁ => ∃ es n al, Fr h₀ L s₁.heap m ∧ (KF w.params).In h₀ ∧ News h₀ L s₁.heap ((x, instObj 1036 dx) :: (dx, dictOf es n) :: rest) ∧ Has es al ∧ al.length ≤ 900 ∧
      ∀ h' es' n', Fr h₀ L h' m → News h₀ L h' ((x, instObj 1036 dx) :: (dx, dictOf es' n') :: rest) → Has es' ((i, v) :: al) → Q .next { s₁ with heap := h', toks := s₁.toks + 2 }) E s)
    (hxd : x ≠ dx) (hr : ∀ q ∈ rest, q.1 ≠ dx)
    (hm : m (Str.ofString "self") = some (.ref x)) (hn : Nm name i)
    (hk : cs.kind = .function := by rfl) (hx : (envX cn cs L a ccd cl).kindOf (Str.ofString "self") = some .local := by rfl)
    (hs : swapsWith e (some (.Attribute (.Name (Str.ofString "self") p₂) name p₃)) p₄.line (envX cn cs L a ccd cl) = pure false := by rfl) :
    wpAny (model prog w) A (exec (.Assign [.Attribute (.Name (Str.ofString "self") p₂) name p₃] e p₄) (envX cn cs L a ccd cl)) Q E s :=
  plainObj_wpAny_Assign_Attribute (wpAny_mono h (fun v s₁ ⟨_, _, _, F, X, N, H, hb, k⟩ => nameX_L F hm (sa F X N hxd hr H hb hn k) hk hx) fun _ _ z => z) hs

/-- an enum's member -/
theorem en {c name : Str} {C b : Addr} {p₁ p₂ : Pos} {Q : Value → Shared → Prop} (F : Fr h₀ L s.heap m) (X : (KF w.params).In h₀) (T : Top p loose mean mg mb h₀) (e : En c C name b) (h : Q (.ref b) { s with toks := s.toks + 1 })
    (hk : cs.kind = .function := by rfl) (hx : (envX cn cs L a ccd cl).kindOf c = some .globalImplicit := by rfl) (hd : (c == ("__debug__" : Str)) = false := by decide) :
    wpAny (model prog w) A (eval (.Attribute (.Name c p₁) name p₂) (envX cn cs L a ccd cl)) Q E s :=
  Attribute_name (nameX_K F X (topRead_of T) (e.cls w).1 (cls_val F X (e.cls w).2.2.2 (e.cls w).2.1 (e.cls w).2.2.1 rfl h) hk hx hd)

inductive EnL : List Expr → List Addr → Prop
  | nil : EnL [] []
  | cons {c name : Str} {C b : Addr} {p₁ p₂ : Pos} {l : List Expr} {bs : List Addr} : En c C name b → EnL l bs → EnL (.Attribute (.Name c p₁) name p₂ :: l) (b :: bs)

theorem enSpl {pos : Pos} (F : Fr h₀ L s.heap m) (X : (KF w.params).In h₀) (T : Top p loose mean mg mb h₀) (hk : cs.kind = .function) (hx : ∀ c C nm b, En c C nm b → (envX cn cs L a ccd cl).kindOf c = some .globalImplicit) :
    ∀ {l : List Expr} {bs : List Addr} {Q : List Value → Shared → Prop} {k : Nat}, EnL l bs → (∀ k, Q (bs.map .ref) { s with toks := k }) → wpAny (model prog w) A (spliced (backTo pos (starEach l (envX cn cs L a ccd cl)))) Q E { s with toks := k }
  | [], _, Q, k, .nil, h => spliced_none (h k)
  | _ :: l, _, Q, k, .cons (b := b) e r, h => by
    refine spliced_more ?_
    refine en (s := { s with toks := k }) F X T e ?_ hk (hx _ _ _ _ e) (by cases e <;> decide)
    exact enSpl (k := k + 1) (Q := fun vs s₂ => Q (.ref b :: vs) s₂) F X T hk hx r (fun k' => by simpa using h k')
end

section
open PySem.SeqAt
theorem withU {M : Model} {A : Around} {α : Type} {t : Sem α} {Q : α → Shared → Prop} {E : Value → Shared → Prop} {s : Shared} (hu : A.units + 8 < cLine) (h : A.units + 8 < cLine → wpAny M A t Q E s) : wpAny M A t Q E s := h hu
theorem u0 {A : Around} (h : A.units + 8 < cLine) : A.units < cLine := Nat.lt_of_le_of_lt (Nat.le_add_right _ _) h
theorem u1 {A : Around} (h : A.units + 8 < cLine) : A.in1.units < cLine := Nat.lt_of_le_of_lt (show A.units + 1 ≤ A.units + 8 by omega) h
theorem EnL.mem {C : Addr} {l : List Expr} {bs : List Addr} (h : EnL l bs) (hc : ∀ c C' n b, En c C' n b → b ∈ bs → C' = C) : ∀ b ∈ bs, Mem C b := by
  induction h with
  | nil => exact fun _ h => nomatch h
  | cons e r ih =>
    intro b hb
    rcases List.mem_cons.mp hb with rfl | hb
    · exact hc _ _ _ _ e (.head _) ▸ e.mem
    · exact ih (fun c C' n b e h => hc c C' n b e (.tail _ h)) b hb
/-- a list of enums' members, all of the class of a mode -/
inductive EnM : List Expr → List Addr → Prop
  | nil : EnM [] []
  | cons {name : Str} {b : Addr} {p₁ p₂ : Pos} {l : List Expr} {bs : List Addr} : En (Str.ofString "AddressingMode") 618 name b → EnM l bs → EnM (.Attribute (.Name (Str.ofString "AddressingMode") p₁) name p₂ :: l) (b :: bs)
theorem EnM.l {l : List Expr} {bs : List Addr} (h : EnM l bs) : EnL l bs := by
  induction h with
  | nil => exact .nil
  | cons e _ ih => exact .cons e ih
theorem EnM.mem {l : List Expr} {bs : List Addr} (h : EnM l bs) : ∀ b ∈ bs, Mem 618 b := by
  induction h with
  | nil => exact fun _ h => nomatch h
  | cons e _ ih =>
    intro b hb
    rcases List.mem_cons.mp hb with rfl | hb
    · exact e.mem
    · exact ih b hb
section
variable {prog : Program} {w : World} {A : Around} {E : Value → Shared → Prop} {s : Shared} {h₀ : Heap} {L a x dx : Addr} {m mg mb : Str → Option Value} {cn : Str} {cs : Scope} {ccd : Value} {cl : List (Str × Addr)} {p : Program} {loose : List Str} {mean : ExcName → Option Value} {news rest : Led} {es : List DictEntry} {n : Nat} {al : List (Nat × Value)}

theorem any_refs (bs : List Addr) (b : Addr) : ((bs.map Value.ref).toArray.any fun y => decide (y = .ref b)) = decide (b ∈ bs) := by
  rw [Bool.eq_iff_iff]
  simp
theorem contains_list {l b : Addr} {bs : List Addr} {Q : Bool → Shared → Prop} (hu : A.units + 8 < cLine) (X : (KF w.params).In s.heap) (hl : s.heap.get? l = some (listOf (bs.map Value.ref).toArray 0)) (mb : Mem 618 b) (hm : ∀ c ∈ bs, Mem 618 c)
    (hq : Q (decide (b ∈ bs)) s) : wpAny (model prog w) A (contains (.ref l) (.ref b)) Q E s := by
  have hT : s.TypeIs (.ref l) "list" := Heap.IsList.typeIs ⟨_, hl, rfl, 0, rfl⟩
  refine contains_slot hT slot_list_contains (call_meets slot_list_contains hT entry_list_contains (args_list_contains _ _) (list_containsAt l (bs.map Value.ref).toArray 0 none #[] (.ref b) fun y => decide (y = .ref b)) ⟨hl, ?_, ?_⟩)
  · intro y hy prog' w' E' Q' hq'
    obtain ⟨c, hc, rfl⟩ := List.mem_map.mp (by simpa using hy)
    refine eqAt_mem (C := 618) (u1 hu) X (hm c hc) mb ?_
    simpa using hq'
  · rw [any_refs]
    exact wpAny_truthy_bool hq
theorem contains_tup {l b : Addr} {bs : List Addr} {Q : Bool → Shared → Prop} (hu : A.units + 8 < cLine) (X : (KF w.params).In s.heap) (hl : s.heap.get? l = some { cls := .type "tuple", data := .seq (bs.map Value.ref).toArray }) (mb : Mem 618 b) (hm : ∀ c ∈ bs, Mem 618 c)
    (hq : Q (decide (b ∈ bs)) s) : wpAny (model prog w) A (contains (.ref l) (.ref b)) Q E s := by
  have hT : s.TypeIs (.ref l) "tuple" := IsTup.typeIs ⟨_, hl, rfl, 0, rfl⟩
  refine contains_slot hT slot_tuple_contains (call_meets slot_tuple_contains hT entry_tuple_contains (args_tuple_contains _ _) (tuple_containsAt l (bs.map Value.ref).toArray 0 none #[] (.ref b) fun y => decide (y = .ref b)) ⟨hl, ?_, ?_⟩)
  · intro y hy prog' w' E' Q' hq'
    obtain ⟨c, hc, rfl⟩ := List.mem_map.mp (by simpa using hy)
    refine eqAt_mem (C := 618) (u1 hu) X (hm c hc) mb ?_
    simpa using hq'
  · rw [any_refs]
    exact wpAny_truthy_bool hq


theorem enSplM {pos : Pos} (F : Fr h₀ L s.heap m) (X : (KF w.params).In h₀) (T : Top p loose mean mg mb h₀) (hk : cs.kind = .function) (hx : (envX cn cs L a ccd cl).kindOf (Str.ofString "AddressingMode") = some .globalImplicit) :
    ∀ {l : List Expr} {bs : List Addr} {Q : List Value → Shared → Prop} {k : Nat}, EnM l bs → (∀ k, Q (bs.map .ref) { s with toks := k }) → wpAny (model prog w) A (spliced (backTo pos (starEach l (envX cn cs L a ccd cl)))) Q E { s with toks := k }
  | [], _, Q, k, .nil, h => spliced_none (h k)
  | _ :: l, _, Q, k, .cons (b := b) e r, h => by
    refine spliced_more ?_
    refine en (s := { s with toks := k }) F X T e ?_ hk hx (by decide)
    exact enSplM (k := k + 1) (Q := fun vs s₂ => Q (.ref b :: vs) s₂) F X T hk hx r (fun k' => by simpa using h k')
theorem EnM.len {l : List Expr} {bs : List Addr} (h : EnM l bs) : bs.length = l.length := by
  induction h with
  | nil => rfl
  | cons _ _ ih => simp [ih]

/-- b in [members] -/
theorem inList {b : Addr} {l : List Expr} {bs : List Addr} {r : Bool} {p₃ : Pos} {Q : Value → Shared → Prop} (F : Fr h₀ L s.heap m) (X : (KF w.params).In h₀) (T : Top p loose mean mg mb h₀) (N : News h₀ L s.heap news) (hu : A.units + 8 < cLine)
    (mb' : Mem 618 b) (hl : EnM l bs) (hr : decide (b ∈ bs) = r) (hz : l.length ≤ 100)
    (h : ∀ h' tk, Fr h₀ L h' m → News h₀ L h' news → Q (.bool r) { s with heap := h', toks := tk })
    (hk : cs.kind = .function) (hx' : (envX cn cs L a ccd cl).kindOf (Str.ofString "AddressingMode") = some .globalImplicit) :
    wpAny (model prog w) A (eval (.List l p₃) (envX cn cs L a ccd cl)) (fun c s₂ => wpAny (model prog w) A (compareOp .In (.ref b) c) Q E s₂) E s := by
  refine List_ (enSplM (s := s) (k := s.toks) F X T hk hx' hl fun k => ?_)
  refine newList_N (s := { s with toks := k }) F N (fun h' F' N' => ?_) (by rw [List.length_map, hl.len]; exact Nat.le_trans hz (by decide))
  refine wpAny_bind (contains_list (bs := bs) hu (X.keeps F'.keep) (N'.get (.head _)) mb' hl.mem (wpAny_pure ?_))
  rw [hr]
  exact h h' k F' fun q hq => N' q (.tail _ hq)
theorem notInList {b : Addr} {l : List Expr} {bs : List Addr} {r : Bool} {p₃ : Pos} {Q : Value → Shared → Prop} (F : Fr h₀ L s.heap m) (X : (KF w.params).In h₀) (T : Top p loose mean mg mb h₀) (N : News h₀ L s.heap news) (hu : A.units + 8 < cLine)
    (mb' : Mem 618 b) (hl : EnM l bs) (hr : (!decide (b ∈ bs)) = r) (hz : l.length ≤ 100)
    (h : ∀ h' tk, Fr h₀ L h' m → News h₀ L h' news → Q (.bool r) { s with heap := h', toks := tk })
    (hk : cs.kind = .function) (hx' : (envX cn cs L a ccd cl).kindOf (Str.ofString "AddressingMode") = some .globalImplicit) :
    wpAny (model prog w) A (eval (.List l p₃) (envX cn cs L a ccd cl)) (fun c s₂ => wpAny (model prog w) A (compareOp .NotIn (.ref b) c) Q E s₂) E s := by
  refine List_ (enSplM (s := s) (k := s.toks) F X T hk hx' hl fun k => ?_)
  refine newList_N (s := { s with toks := k }) F N (fun h' F' N' => ?_) (by rw [List.length_map, hl.len]; exact Nat.le_trans hz (by decide))
  refine wpAny_bind (contains_list (bs := bs) hu (X.keeps F'.keep) (N'.get (.head _)) mb' hl.mem (wpAny_pure ?_))
  rw [hr]
  exact h h' k F' fun q hq => N' q (.tail _ hq)
theorem inTup {b : Addr} {l : List Expr} {bs : List Addr} {r : Bool} {k₀ : Nat} {p₃ : Pos} {Q : Value → Shared → Prop} (F : Fr h₀ L s.heap m) (X : (KF w.params).In h₀) (T : Top p loose mean mg mb h₀) (N : News h₀ L s.heap news) (hu : A.units + 8 < cLine)
    (mb' : Mem 618 b) (hl : EnM l bs) (hr : decide (b ∈ bs) = r) (hz : l.length ≤ 100)
    (h : ∀ h' tk, Fr h₀ L h' m → News h₀ L h' news → Q (.bool r) { s with heap := h', toks := tk })
    (hk : cs.kind = .function) (hx' : (envX cn cs L a ccd cl).kindOf (Str.ofString "AddressingMode") = some .globalImplicit) :
    wpAny (model prog w) A (eval (.Tuple l k₀ p₃) (envX cn cs L a ccd cl)) (fun c s₂ => wpAny (model prog w) A (compareOp .In (.ref b) c) Q E s₂) E s := by
  refine Tuple_ (enSplM (s := s) (k := s.toks) F X T hk hx' hl fun k => ?_)
  refine newTuple_N (s := { s with toks := k }) F N (fun h' F' N' => ?_) (by rw [List.length_map, hl.len]; exact Nat.le_trans hz (by decide))
  refine wpAny_bind (contains_tup (bs := bs) hu (X.keeps F'.keep) (N'.get (.head _)) mb' hl.mem (wpAny_pure ?_))
  rw [hr]
  exact h h' k F' fun q hq => N' q (.tail _ hq)

/-- self.name in [members] -/
theorem isIn {name : Str} {i : Nat} {b : Addr} {l : List Expr} {bs : List Addr} {r : Bool} {p₁ p₂ p₃ p₄ : Pos} {whole : Sem Value} {Q : Bool → Shared → Prop} (F : Fr h₀ L s.heap m) (X : (KF w.params).In h₀) (T : Top p loose mean mg mb h₀) (N : News h₀ L s.heap news) (h1 : (x, instObj 1036 dx) ∈ news) (h2 : (dx, dictOf es n) ∈ news) (H : Has es al) (hu : A.units + 8 < cLine)
    (hm : m (Str.ofString "self") = some (.ref x)) (hn : Nm name i) (hv : al.lookup i = some (.ref b)) (mb' : Mem 618 b) (hl : EnM l bs) (hr : decide (b ∈ bs) = r) (hz : l.length ≤ 100)
    (h : ∀ h' tk, Fr h₀ L h' m → News h₀ L h' news → Q r { s with heap := h', toks := tk })
    (hk : cs.kind = .function := by rfl) (hx : (envX cn cs L a ccd cl).kindOf (Str.ofString "self") = some .local := by rfl) (hx' : (envX cn cs L a ccd cl).kindOf (Str.ofString "AddressingMode") = some .globalImplicit := by rfl)
    (hb : behindInMarks .In (.List l p₃) = false := by rfl) :
    wpAny (model prog w) A (isTrue (.Compare (.Attribute (.Name (Str.ofString "self") p₁) name p₂) [.In] [.List l p₃] p₄) (envX cn cs L a ccd cl) whole) Q E s :=
  wpAny_isTrue_Compare1 (rd F X N h1 h2 H hm hn hv rfl (inList (s := { s with toks := s.toks + 1 }) F X T N hu mb' hl hr hz (fun h' tk F' N' => wpAny_truthy_bool (h h' tk F' N')) hk hx') hk hx) hb
theorem isNotIn {name : Str} {i : Nat} {b : Addr} {l : List Expr} {bs : List Addr} {r : Bool} {p₁ p₂ p₃ p₄ : Pos} {whole : Sem Value} {Q : Bool → Shared → Prop} (F : Fr h₀ L s.heap m) (X : (KF w.params).In h₀) (T : Top p loose mean mg mb h₀) (N : News h₀ L s.heap news) (h1 : (x, instObj 1036 dx) ∈ news) (h2 : (dx, dictOf es n) ∈ news) (H : Has es al) (hu : A.units + 8 < cLine)
    (hm : m (Str.ofString "self") = some (.ref x)) (hn : Nm name i) (hv : al.lookup i = some (.ref b)) (mb' : Mem 618 b) (hl : EnM l bs) (hr : (!decide (b ∈ bs)) = r) (hz : l.length ≤ 100)
    (h : ∀ h' tk, Fr h₀ L h' m → News h₀ L h' news → Q r { s with heap := h', toks := tk })
    (hk : cs.kind = .function := by rfl) (hx : (envX cn cs L a ccd cl).kindOf (Str.ofString "self") = some .local := by rfl) (hx' : (envX cn cs L a ccd cl).kindOf (Str.ofString "AddressingMode") = some .globalImplicit := by rfl)
    (hb : behindInMarks .NotIn (.List l p₃) = false := by rfl) :
    wpAny (model prog w) A (isTrue (.Compare (.Attribute (.Name (Str.ofString "self") p₁) name p₂) [.NotIn] [.List l p₃] p₄) (envX cn cs L a ccd cl) whole) Q E s :=
  wpAny_isTrue_Compare1 (rd F X N h1 h2 H hm hn hv rfl (notInList (s := { s with toks := s.toks + 1 }) F X T N hu mb' hl hr hz (fun h' tk F' N' => wpAny_truthy_bool (h h' tk F' N')) hk hx') hk hx) hb
theorem isInT {name : Str} {i : Nat} {b : Addr} {l : List Expr} {bs : List Addr} {r : Bool} {k₀ : Nat} {p₁ p₂ p₃ p₄ : Pos} {whole : Sem Value} {Q : Bool → Shared → Prop} (F : Fr h₀ L s.heap m) (X : (KF w.params).In h₀) (T : Top p loose mean mg mb h₀) (N : News h₀ L s.heap news) (h1 : (x, instObj 1036 dx) ∈ news) (h2 : (dx, dictOf es n) ∈ news) (H : Has es al) (hu : A.units + 8 < cLine)
    (hm : m (Str.ofString "self") = some (.ref x)) (hn : Nm name i) (hv : al.lookup i = some (.ref b)) (mb' : Mem 618 b) (hl : EnM l bs) (hr : decide (b ∈ bs) = r) (hz : l.length ≤ 100)
    (h : ∀ h' tk, Fr h₀ L h' m → News h₀ L h' news → Q r { s with heap := h', toks := tk })
    (hk : cs.kind = .function := by rfl) (hx : (envX cn cs L a ccd cl).kindOf (Str.ofString "self") = some .local := by rfl) (hx' : (envX cn cs L a ccd cl).kindOf (Str.ofString "AddressingMode") = some .globalImplicit := by rfl)
    (hb : behindInMarks .In (.Tuple l k₀ p₃) = false := by rfl) :
    wpAny (model prog w) A (isTrue (.Compare (.Attribute (.Name (Str.ofString "self") p₁) name p₂) [.In] [.Tuple l k₀ p₃] p₄) (envX cn cs L a ccd cl) whole) Q E s :=
  wpAny_isTrue_Compare1 (rd F X N h1 h2 H hm hn hv rfl (inTup (s := { s with toks := s.toks + 1 }) F X T N hu mb' hl hr hz (fun h' tk F' N' => wpAny_truthy_bool (h h' tk F' N')) hk hx') hk hx) hb
/-- self.name == Enum.member -/
theorem isEq {name c nm : Str} {C b b' : Addr} {i : Nat} {r : Bool} {p₁ p₂ p₃ p₄ p₅ : Pos} {whole : Sem Value} {Q : Bool → Shared → Prop} (F : Fr h₀ L s.heap m) (X : (KF w.params).In h₀) (T : Top p loose mean mg mb h₀) (N : News h₀ L s.heap news) (h1 : (x, instObj 1036 dx) ∈ news) (h2 : (dx, dictOf es n) ∈ news) (H : Has es al) (hu : A.units + 8 < cLine)
    (hm : m (Str.ofString "self") = some (.ref x)) (hn : Nm name i) (hv : al.lookup i = some (.ref b)) (mb' : Mem C b) (e : En c C nm b') (hr : decide (b = b') = r)
    (h : Q r { s with toks := s.toks + 2 })
    (hk : cs.kind = .function := by rfl) (hx : (envX cn cs L a ccd cl).kindOf (Str.ofString "self") = some .local := by rfl) (hx' : (envX cn cs L a ccd cl).kindOf c = some .globalImplicit := by rfl) (hd : (c == ("__debug__" : Str)) = false := by decide) :
    wpAny (model prog w) A (isTrue (.Compare (.Attribute (.Name (Str.ofString "self") p₁) name p₂) [.Eq] [.Attribute (.Name c p₃) nm p₄] p₅) (envX cn cs L a ccd cl) whole) Q E s :=
  wpAny_isTrue_Compare1 (rd F X N h1 h2 H hm hn hv rfl (en (s := { s with toks := s.toks + 1 }) F X T e (cmpEq_mem (P := w.params) (u0 hu) (X.keeps F.keep) mb' e.mem (by rw [hr]; exact wpAny_truthy_bool h)) hk hx' hd) hk hx) rfl
/-- a name's value == Enum.member -/
theorem isEqN {y c nm : Str} {C b b' : Addr} {r : Bool} {p₁ p₃ p₄ p₅ : Pos} {whole : Sem Value} {Q : Bool → Shared → Prop} (F : Fr h₀ L s.heap m) (X : (KF w.params).In h₀) (T : Top p loose mean mg mb h₀) (hu : A.units + 8 < cLine)
    (hm : m y = some (.ref b)) (mb' : Mem C b) (e : En c C nm b') (hr : decide (b = b') = r)
    (h : Q r { s with toks := s.toks + 1 })
    (hk : cs.kind = .function := by rfl) (hx : (envX cn cs L a ccd cl).kindOf y = some .local := by rfl) (hdy : (y == ("__debug__" : Str)) = false := by decide) (hx' : (envX cn cs L a ccd cl).kindOf c = some .globalImplicit := by rfl) (hd : (c == ("__debug__" : Str)) = false := by decide) :
    wpAny (model prog w) A (isTrue (.Compare (.Name y p₁) [.Eq] [.Attribute (.Name c p₃) nm p₄] p₅) (envX cn cs L a ccd cl) whole) Q E s :=
  wpAny_isTrue_Compare1 (nameX_L F hm (en F X T e (cmpEq_mem (P := w.params) (u0 hu) (X.keeps F.keep) mb' e.mem (by rw [hr]; exact wpAny_truthy_bool h)) hk hx' hd) hk hx hdy) rfl
/-- self.name is None -/
theorem isNone {name : Str} {i : Nat} {v : Value} {r : Bool} {k₀ : Nat} {p₁ p₂ p₃ p₄ : Pos} {whole : Sem Value} {Q : Bool → Shared → Prop} (F : Fr h₀ L s.heap m) (X : (KF w.params).In h₀) (N : News h₀ L s.heap news) (h1 : (x, instObj 1036 dx) ∈ news) (h2 : (dx, dictOf es n) ∈ news) (H : Has es al)
    (hm : m (Str.ofString "self") = some (.ref x)) (hn : Nm name i) (hv : al.lookup i = some v) (hr : (v == .none) = r) (hh : handedIn v = true)
    (h : Q r { s with toks := s.toks + 1 })
    (hk : cs.kind = .function := by rfl) (hx : (envX cn cs L a ccd cl).kindOf (Str.ofString "self") = some .local := by rfl) :
    wpAny (model prog w) A (isTrue (.Compare (.Attribute (.Name (Str.ofString "self") p₁) name p₂) [.Is] [.Constant .none k₀ p₃] p₄) (envX cn cs L a ccd cl) whole) Q E s :=
  wpAny_isTrue_Compare1 (rd F X N h1 h2 H hm hn hv hh (wpAny_Constant_none (is_none_gen (by rw [hr]; exact wpAny_truthy_bool h))) hk hx) rfl
theorem isNotNone {name : Str} {i : Nat} {v : Value} {r : Bool} {k₀ : Nat} {p₁ p₂ p₃ p₄ : Pos} {whole : Sem Value} {Q : Bool → Shared → Prop} (F : Fr h₀ L s.heap m) (X : (KF w.params).In h₀) (N : News h₀ L s.heap news) (h1 : (x, instObj 1036 dx) ∈ news) (h2 : (dx, dictOf es n) ∈ news) (H : Has es al)
    (hm : m (Str.ofString "self") = some (.ref x)) (hn : Nm name i) (hv : al.lookup i = some v) (hr : (!(v == .none)) = r) (hh : handedIn v = true)
    (h : Q r { s with toks := s.toks + 1 })
    (hk : cs.kind = .function := by rfl) (hx : (envX cn cs L a ccd cl).kindOf (Str.ofString "self") = some .local := by rfl) :
    wpAny (model prog w) A (isTrue (.Compare (.Attribute (.Name (Str.ofString "self") p₁) name p₂) [.IsNot] [.Constant .none k₀ p₃] p₄) (envX cn cs L a ccd cl) whole) Q E s :=
  wpAny_isTrue_Compare1 (rd F X N h1 h2 H hm hn hv hh (wpAny_Constant_none (isnot_none_gen (by rw [hr]; exact wpAny_truthy_bool h))) hk hx) rfl
/-- a method of self's is looked up -/
theorem meth {name : Str} {i : Nat} {f : Addr} {pl : Sem Bool} {Q : Value × List Value → Shared → Prop} (F : Fr h₀ L s.heap m) (X : (KF w.params).In h₀) (N : News h₀ L s.heap news) (h1 : (x, instObj 1036 dx) ∈ news) (h2 : (dx, dictOf es n) ∈ news) (H : Has es al)
    (hn : Mt name i f) (hv : al.lookup i = none) (h : Q (.ref f, [.ref x]) s) : wpAny (model prog w) A (getMethod (.ref x) name pl) Q E s :=
  method_inst F X (InstAt.of_news N h1 h2) (hn.own w).1 (hn.own w).2.1 (hn.own w).2.2 (H.no hn hv) h
end

end
structure Room (A : Around) (k : Nat) : Prop where
  u : A.units + 4 * k < cLine
  d : A.depth + k < recursionLimit
  h : A.handled = none
theorem units_mk (A : Around) (C : Addr) (pos : List Value) (kw : List (Str × Value)) : (A.under (.builtin "type.__call__" ⟨.ref C :: pos, kw⟩)).units = A.units + 1 := by
  cases kw <;> rfl
theorem depth_mk (A : Around) (C : Addr) (pos : List Value) (kw : List (Str × Value)) : (A.under (.builtin "type.__call__" ⟨.ref C :: pos, kw⟩)).depth = A.depth + 1 := by
  cases kw <;> rfl
theorem Room.deeper {A : Around} {k : Nat} (R : Room A (k + 1)) (env : Env) : Room (A.deeper env) k :=
  ⟨by have := R.u; rw [units_deeper]; omega, by have := R.d; rw [depth_deeper]; omega, R.h⟩
theorem Room.make {A : Around} {k : Nat} (R : Room A (k + 1)) {C : Addr} {pos : List Value} {kw : List (Str × Value)} : Room (A.under (.builtin "type.__call__" ⟨.ref C :: pos, kw⟩)) k :=
  ⟨by have := R.u; rw [units_mk]; omega, by have := R.d; rw [depth_mk]; omega, R.h⟩
theorem Room.le {A : Around} {k j : Nat} (R : Room A k) (h : j ≤ k) : Room A j := ⟨by have := R.u; omega, by have := R.d; omega, R.h⟩
theorem Room.u8 {A : Around} {k : Nat} (R : Room A k) (h : Nat.ble 2 k = true) : A.units + 8 < cLine := by
  have := R.u; have := Nat.le_of_ble_eq_true h; omega

theorem zip_rev {names : List Str} {vals : List Value} (hnd : names.Nodup) : ∀ q ∈ names.zip vals, (names.zip vals).reverse.lookup q.1 = some q.2 := by
  have key : ∀ (l : List (Str × Value)), (l.map (·.1)).Nodup → ∀ q ∈ l, l.lookup q.1 = some q.2 := by
    intro l
    induction l with
    | nil => intro _ q h; exact nomatch h
    | cons a r ih =>
      obtain ⟨a1, a2⟩ := a
      intro hn q hq
      rw [List.map_cons, List.nodup_cons] at hn
      rcases List.mem_cons.mp hq with rfl | hq
      · simp [List.lookup_cons]
      · rw [List.lookup_cons]
        have : (q.1 == a1) = false := by
          rw [beq_eq_false_iff_ne]
          intro e
          exact hn.1 (List.mem_map.mpr ⟨q, hq, e⟩)
        rw [this]
        exact ih hn.2 q hq
  intro q hq
  have hn : ((names.zip vals).map (·.1)).Nodup := by
    have : (names.zip vals).map (·.1) = names.take (names.zip vals).length := by
      have zt : ∀ (ns : List Str) (vs : List Value), (ns.zip vs).map (·.1) = ns.take (ns.zip vs).length := by
        intro ns
        induction ns with
        | nil => intro vs; rfl
        | cons a r ih => intro vs; cases vs with
          | nil => rfl
          | cons b t => simp [ih t]
      exact zt names vals
    rw [this]
    exact hnd.sublist (List.take_sublist _ _)
  exact key _ (by rw [List.map_reverse]; exact (List.reverse_perm _).nodup_iff.mpr hn) q (List.mem_reverse.mpr hq)

section
variable {prog : Program} {w : World} {A A₀ : Around} {s : Shared} {KK : Frag} {L : Addr} {h₀ base : Heap} {m mg mb : Str → Option Value} {news : Led} {p : Program} {loose : List Str} {mean : ExcName → Option Value}
theorem enter {env : Env} {outer : List Env} {R : Result → Shared → Prop} {name qual : Str} {params : Arguments} {body : List Stmt} {scope : Scope} {dV kV doc pm cdv ct oc : Value} {an od : Option Addr} {osl : Array (Option Value)} {f : Addr} {args : Args} (names gl : List Str) (vals : List Value) {k : Nat}
    (Rm : Room A (k + 1)) (B : Below A₀ base outer h₀) (F : Fr h₀ L s.heap m) (X₀ : KK.In h₀) (N : News h₀ L s.heap news) (T : Top p loose mean mg mb h₀) (hA : A.frames = some (env :: outer)) (hf : env.frame = some L) (hke : env.scope.kind = .function)
    (ho : KK.lookup f = some ⟨oc, od, .func (fnOf name qual params body scope dV kV doc pm an cdv ct), osl⟩) (hcd : codeIn KK cdv qual = true)
    (hbind : BindsTo s (fnOf name qual params body scope dV kV doc pm an cdv ct) args (names.zip vals)) (hnd : names.Nodup) (hloc : ∀ y ∈ names, scope.names.lookup y = some .local) (hgl : ∀ y ∈ gl, scope.names.lookup y = some .globalImplicit) (hdb : ∀ y ∈ names, (y == Str.ofString "__debug__") = false) (hdg : ∀ y ∈ gl, (y == Str.ofString "__debug__") = false)
    (h : ∀ (AA : Around) g L' h₁ m' tk, (∀ q ∈ names.zip vals, m' q.1 = some q.2) → (∀ y ∈ names, (envX qual scope L' f cdv []).kindOf y = some .local) → (∀ y ∈ gl, (envX qual scope L' f cdv []).kindOf y = some .globalImplicit) → (∀ y ∈ names, (y == Str.ofString "__debug__") = false) → (∀ y ∈ gl, (y == Str.ofString "__debug__") = false) → Room AA k → AA.frames = some ((envOf qual scope L' f cdv) :: env :: outer) → Fr h₀ L g m → Fr g L' h₁ m' → News g L' h₁ news → Below A base (env :: outer) g → KK.In g → Top p loose mean mg mb g →
      wpAny (model prog w) AA (execs body (envOf qual scope L' f cdv))
        (fun fl s' => LeaveK h₀ L m g R (match fl with | .ret v => v | _ => .none) s')
        (fun e s' => wpAny (model prog w) AA (leaving (envOf qual scope L' f cdv) e) (fun _ s'' => R (.error e) s'') (fun e' s'' => R (.error e') s'') s')
        { s with heap := h₁, toks := tk })
    (hco : scope.isCoroutine = false) (hgen : scope.isGenerator = false) (hk : scope.kind = .function)
    (hcell : ∀ x ∈ scope.names, x.2 ≠ .cell) : codeAny (model prog w) A (.call (.ref f) args) R s :=
  code_def B F X₀ N T hA hf hke ho hcd (by have := Rm.d; omega) hbind (fun y hy => hloc _ (List.of_mem_zip hy).1) (fun g L' h₁ FG F' N' B' X' T' => h (A.deeper _) g L' h₁ _ _ (zip_rev hnd) (fun y hy => hloc y hy) (fun y hy => hgl y hy) hdb hdg (Rm.deeper _) (Around.frames_deeper (Below.stack B')) FG F' N' B' X' T') hco hgen hk hcell
end

theorem iteT {a b : Prop} (h : a) : if (true = true) then a else b := by rw [if_pos rfl]; exact h
theorem iteF {a b : Prop} (h : b) : if (false = true) then a else b := by rw [if_neg (by decide)]; exact h

/-! what an address is -/
def Vo (al : List (Nat × Value)) (i : Nat) : Option Int → Prop
  | none => al.lookup i = some .none
  | some j => ∃ t, al.lookup i = some (.int j t)
def Vi (al : List (Nat × Value)) (i : Nat) : Option Int → Prop
  | none => True
  | some j => ∃ t, al.lookup i = some (.int j t)
def oct (j : Int) : Array UInt8 := #[UInt8.ofNat j.toNat]
def Vb (al : List (Nat × Value)) : Option Int → Prop
  | none => ∃ t, al.lookup 11 = some (.bytes #[] t)
  | some j => ∃ t, al.lookup 11 = some (.bytes (oct j) t)
structure Ad (al : List (Nat × Value)) (M : Addr) (rx tx w29 : Bool) (ta sa ext rxid ph fu pfx : Option Int) (psz : Int) (rp rf tp tf : Option Int) : Prop where
  m : al.lookup 2 = some (.ref M)
  rx : al.lookup 0 = some (.bool rx)
  tx : al.lookup 1 = some (.bool tx)
  w : al.lookup 8 = some (.bool w29)
  ta : Vo al 3 ta
  sa : Vo al 4 sa
  ext : Vo al 5 ext
  rxid : Vo al 7 rxid
  ph : Vi al 9 ph
  fu : Vi al 10 fu
  pfx : Vb al pfx
  psz : ∃ t, al.lookup 12 = some (.int psz t)
  rp : Vi al 13 rp
  rf : Vi al 14 rf
  tp : Vi al 15 tp
  tf : Vi al 16 tf
  no : ∀ i, 20 ≤ i → al.lookup i = none

/-- how a contract stands: from any caller -/
def Ctx (w : World) (rest : Led) (f : Value) (pos : List Value) (kw : List (Str × Value)) (ret : (h₀ : Heap) → (L : Addr) → (m : Str → Option Value) → (s : Shared) → (Q : Value → Shared → Prop) → Prop) : Prop :=
  ∀ (p : Program) (loose : List Str) (mean : ExcName → Option Value) (mg mb : Str → Option Value) (A : Around) (env : Env) (outer : List Env) (A₀ : Around) (base h₀ : Heap) (L : Addr) (m : Str → Option Value) (s : Shared) (Q E : Value → Shared → Prop),
    Below A₀ base outer h₀ → Fr h₀ L s.heap m → (KF w.params).In h₀ → News h₀ L s.heap rest → Top p loose mean mg mb h₀ → A.frames = some (env :: outer) → env.frame = some L → env.scope.kind = .function → Room A 8 →
    ret h₀ L m s Q → wpAny (model PySem.Challenge.rw_ff0002_01.row.prog w) A (call f pos kw) Q E s

/-- a call of the class makes an address of which F tells -/
def NewAddr (w : World) (pos : List Value) (kw : List (Str × Value)) (Fa : List (Nat × Value) → Prop) : Prop :=
  ∀ rest : Led, Ctx w rest (.ref 1036) pos kw fun h₀ L m s Q =>
    ∀ x d es n al h' tk', Fr h₀ L h' m → News h₀ L h' ((x, instObj 1036 d) :: (d, dictOf es n) :: rest) → Has es al → Fa al → d < x → (∀ q ∈ rest, q.1 < d) → Q (.ref x) { s with heap := h', toks := tk' }
theorem na_end {h₀ h' : Heap} {L x d : Addr} {m : Str → Option Value} {s : Shared} {Q : Value → Shared → Prop} {rest : Led} {es : List DictEntry} {n tk' : Nat} {al : List (Nat × Value)} {Fa : List (Nat × Value) → Prop}
    (hret : ∀ x d es n al h' tk', Fr h₀ L h' m → News h₀ L h' ((x, instObj 1036 d) :: (d, dictOf es n) :: rest) → Has es al → Fa al → d < x → (∀ q ∈ rest, q.1 < d) → Q (.ref x) { s with heap := h', toks := tk' })
    (l1 : ∀ q ∈ rest, q.1 < d) (l2 : d < x) (F : Fr h₀ L h' m) (N : News h₀ L h' ((x, instObj 1036 d) :: (d, dictOf es n) :: rest)) (H : Has es al) (fa : Fa al) : Q (.ref x) { s with heap := h', toks := tk' } := hret x d es n al h' tk' F N H fa l2 l1

theorem Mt.keep (w : World) {x : Str} {i : Nat} {f : Addr} (h : Mt x i f) : keepIn (KF w.params) (.ref f) = true := by
  cases h <;> kernel_rfl
section
variable {prog : Program} {w : World} {A : Around} {E : Value → Shared → Prop} {s : Shared} {h₀ : Heap} {L a x dx : Addr} {m mg mb : Str → Option Value} {cn : Str} {cs : Scope} {ccd : Value} {cl : List (Str × Addr)} {p : Program} {loose : List Str} {mean : ExcName → Option Value} {news rest : Led} {es : List DictEntry} {n : Nat} {al : List (Nat × Value)}
/-- y.name() -/
theorem callN0 {pl : Sem Bool} {y name : Str} {i : Nat} {f : Addr} {p₁ p₂ p₃ : Pos} {Q : Value → Shared → Prop} (F : Fr h₀ L s.heap m) (X : (KF w.params).In h₀) (N : News h₀ L s.heap news) (h1 : (x, instObj 1036 dx) ∈ news) (h2 : (dx, dictOf es n) ∈ news) (H : Has es al)
    (hm : m y = some (.ref x)) (hn : Mt name i f) (hv : al.lookup i = none) (h : wpAny (model prog w) A (call (.ref f) [.ref x]) Q E s)
    (hk : cs.kind = .function := by rfl) (hx : (envX cn cs L a ccd cl).kindOf y = some .local := by rfl) (hd : (y == ("__debug__" : Str)) = false := by decide) (he : eval (.Call (.Attribute (.Name y p₁) name p₂) [] [] p₃) (envX cn cs L a ccd cl) = (do
      let ov ← eval (.Name y p₁) (envX cn cs L a ccd cl)
      standAt p₂.atName
      let (f, first) ← holding [ov] (getMethod ov name pl)
      callWith p₃ f first (backTo p₃ (starEach [] (envX cn cs L a ccd cl))) [])) :
    wpAny (model prog w) A (eval (.Call (.Attribute (.Name y p₁) name p₂) [] [] p₃) (envX cn cs L a ccd cl)) Q E s := by
  have hq : wpAny (model prog w) A (getMethod (.ref x) name pl) (fun fx s₂ => wpAny (model prog w) A (callWith p₃ fx.1 fx.2 (backTo p₃ (starEach [] (envX cn cs L a ccd cl))) []) Q E s₂) E s := meth F X N h1 h2 H hn hv (callWith_K0 (X.keeps F.keep) (hn.keep w) h)
  exact MethodCall_ (nameX_L F hm hq hk hx hd) he
/-- y.name(Enum.member) -/
theorem callN1e {pl : Sem Bool} {y name c nm : Str} {C b : Addr} {i : Nat} {f : Addr} {p₁ p₂ p₃ p₄ p₅ : Pos} {Q : Value → Shared → Prop} (F : Fr h₀ L s.heap m) (X : (KF w.params).In h₀) (T : Top p loose mean mg mb h₀) (N : News h₀ L s.heap news) (h1 : (x, instObj 1036 dx) ∈ news) (h2 : (dx, dictOf es n) ∈ news) (H : Has es al)
    (hm : m y = some (.ref x)) (hn : Mt name i f) (hv : al.lookup i = none) (e : En c C nm b) (h : ∀ tk, wpAny (model prog w) A (call (.ref f) [.ref x, .ref b]) Q E { s with toks := tk })
    (hk : cs.kind = .function := by rfl) (hx : (envX cn cs L a ccd cl).kindOf y = some .local := by rfl) (hd : (y == ("__debug__" : Str)) = false := by decide)
    (hx' : (envX cn cs L a ccd cl).kindOf c = some .globalImplicit := by rfl) (hd' : (c == ("__debug__" : Str)) = false := by decide) (he : eval (.Call (.Attribute (.Name y p₁) name p₂) [.Attribute (.Name c p₄) nm p₅] [] p₃) (envX cn cs L a ccd cl) = (do
      let ov ← eval (.Name y p₁) (envX cn cs L a ccd cl)
      standAt p₂.atName
      let (f, first) ← holding [ov] (getMethod ov name pl)
      callWith p₃ f first (backTo p₃ (starEach [.Attribute (.Name c p₄) nm p₅] (envX cn cs L a ccd cl))) [])) :
    wpAny (model prog w) A (eval (.Call (.Attribute (.Name y p₁) name p₂) [.Attribute (.Name c p₄) nm p₅] [] p₃) (envX cn cs L a ccd cl)) Q E s := by
  have hq : wpAny (model prog w) A (getMethod (.ref x) name pl) (fun fx s₂ => wpAny (model prog w) A (callWith p₃ fx.1 fx.2 (backTo p₃ (starEach [.Attribute (.Name c p₄) nm p₅] (envX cn cs L a ccd cl))) []) Q E s₂) E s := meth F X N h1 h2 H hn hv (callWith_K X (hn.keep w) (spliced_more (en F X T e (spliced_none ⟨X.keeps F.keep, h _⟩) hk hx' hd')))
  exact MethodCall_ (nameX_L F hm hq hk hx hd) he
/-- y.name(z) -/
theorem callN1 {pl : Sem Bool} {y z name : Str} {v : Value} {i : Nat} {f : Addr} {p₁ p₂ p₃ p₄ : Pos} {Q : Value → Shared → Prop} (F : Fr h₀ L s.heap m) (X : (KF w.params).In h₀) (N : News h₀ L s.heap news) (h1 : (x, instObj 1036 dx) ∈ news) (h2 : (dx, dictOf es n) ∈ news) (H : Has es al)
    (hm : m y = some (.ref x)) (hz : m z = some v) (hn : Mt name i f) (hv : al.lookup i = none) (h : wpAny (model prog w) A (call (.ref f) [.ref x, v]) Q E s)
    (hk : cs.kind = .function := by rfl) (hx : (envX cn cs L a ccd cl).kindOf y = some .local := by rfl) (hd : (y == ("__debug__" : Str)) = false := by decide)
    (hx' : (envX cn cs L a ccd cl).kindOf z = some .local := by rfl) (hd' : (z == ("__debug__" : Str)) = false := by decide) (he : eval (.Call (.Attribute (.Name y p₁) name p₂) [.Name z p₄] [] p₃) (envX cn cs L a ccd cl) = (do
      let ov ← eval (.Name y p₁) (envX cn cs L a ccd cl)
      standAt p₂.atName
      let (f, first) ← holding [ov] (getMethod ov name pl)
      callWith p₃ f first (backTo p₃ (starEach [.Name z p₄] (envX cn cs L a ccd cl))) [])) :
    wpAny (model prog w) A (eval (.Call (.Attribute (.Name y p₁) name p₂) [.Name z p₄] [] p₃) (envX cn cs L a ccd cl)) Q E s := by
  have hq : wpAny (model prog w) A (getMethod (.ref x) name pl) (fun fx s₂ => wpAny (model prog w) A (callWith p₃ fx.1 fx.2 (backTo p₃ (starEach [.Name z p₄] (envX cn cs L a ccd cl))) []) Q E s₂) E s := meth F X N h1 h2 H hn hv (callWith_K X (hn.keep w) (spliced_more (nameX_L F hz (spliced_none ⟨X.keeps F.keep, h⟩) hk hx' hd')))
  exact MethodCall_ (nameX_L F hm hq hk hx hd) he
end

section
variable {prog : Program} {w : World} {A A₀ : Around} {s : Shared} {KK : Frag} {L : Addr} {h₀ base : Heap} {m mg mb : Str → Option Value} {news : Led} {p : Program} {loose : List Str} {mean : ExcName → Option Value}
theorem enterP {env : Env} {outer : List Env} {R : Result → Shared → Prop} {name qual : Str} {params : Arguments} {body : List Stmt} {scope : Scope} {dV kV doc pm cdv ct oc : Value} {an od : Option Addr} {osl : Array (Option Value)} {f : Addr} {vals : List Value} (names gl : List Str) {k : Nat}
    (Rm : Room A (k + 1)) (B : Below A₀ base outer h₀) (F : Fr h₀ L s.heap m) (X₀ : KK.In h₀) (N : News h₀ L s.heap news) (T : Top p loose mean mg mb h₀) (hA : A.frames = some (env :: outer)) (hf : env.frame = some L) (hke : env.scope.kind = .function)
    (ho : KK.lookup f = some ⟨oc, od, .func (fnOf name qual params body scope dV kV doc pm an cdv ct), osl⟩) (hcd : codeIn KK cdv qual = true)
    (hbind : bindArgs (fnOf name qual params body scope dV kV doc pm an cdv ct) ⟨vals, []⟩ = pure (names.zip vals)) (hnd : names.Nodup) (hloc : ∀ y ∈ names, scope.names.lookup y = some .local) (hgl : ∀ y ∈ gl, scope.names.lookup y = some .globalImplicit) (hdb : ∀ y ∈ names, (y == Str.ofString "__debug__") = false) (hdg : ∀ y ∈ gl, (y == Str.ofString "__debug__") = false)
    (h : ∀ (AA : Around) g L' h₁ m' tk, (∀ q ∈ names.zip vals, m' q.1 = some q.2) → (∀ y ∈ names, (envX qual scope L' f cdv []).kindOf y = some .local) → (∀ y ∈ gl, (envX qual scope L' f cdv []).kindOf y = some .globalImplicit) → (∀ y ∈ names, (y == Str.ofString "__debug__") = false) → (∀ y ∈ gl, (y == Str.ofString "__debug__") = false) → Room AA k → AA.frames = some ((envOf qual scope L' f cdv) :: env :: outer) → Fr h₀ L g m → Fr g L' h₁ m' → News g L' h₁ news → Below A base (env :: outer) g → KK.In g → Top p loose mean mg mb g →
      wpAny (model prog w) AA (execs body (envOf qual scope L' f cdv))
        (fun fl s' => LeaveK h₀ L m g R (match fl with | .ret v => v | _ => .none) s')
        (fun e s' => wpAny (model prog w) AA (leaving (envOf qual scope L' f cdv) e) (fun _ s'' => R (.error e) s'') (fun e' s'' => R (.error e') s'') s')
        { s with heap := h₁, toks := tk })
    (hco : scope.isCoroutine = false) (hgen : scope.isGenerator = false) (hk : scope.kind = .function)
    (hcell : ∀ x ∈ scope.names, x.2 ≠ .cell) : codeAny (model prog w) A (.call (.ref f) ⟨vals, []⟩) R s :=
  enter names gl vals Rm B F X₀ N T hA hf hke ho hcd (BindsTo.of_eq hbind) hnd hloc hgl hdb hdg h hco hgen hk hcell
theorem enterB {env : Env} {outer : List Env} {R : Result → Shared → Prop} {name qual : Str} {params : Arguments} {body : List Stmt} {scope : Scope} {dV kV doc pm cdv ct oc : Value} {an od : Option Addr} {osl : Array (Option Value)} {f : Addr} {vals : List Value} (names gl : List Str) {k : Nat}
    (Rm : Room A (k + 1)) (B : Below A₀ base outer h₀) (F : Fr h₀ L s.heap m) (X₀ : KK.In h₀) (N : News h₀ L s.heap news) (T : Top p loose mean mg mb h₀) (hA : A.frames = some (env :: outer)) (hf : env.frame = some L) (hke : env.scope.kind = .function)
    (ho : KK.lookup f = some ⟨oc, od, .func (fnOf name qual params body scope dV kV doc pm an cdv ct), osl⟩) (hcd : codeIn KK cdv qual = true)
    (hbind : BindsTo s (fnOf name qual params body scope dV kV doc pm an cdv ct) ⟨vals, []⟩ (names.zip vals)) (hnd : names.Nodup) (hloc : ∀ y ∈ names, scope.names.lookup y = some .local) (hgl : ∀ y ∈ gl, scope.names.lookup y = some .globalImplicit) (hdb : ∀ y ∈ names, (y == Str.ofString "__debug__") = false) (hdg : ∀ y ∈ gl, (y == Str.ofString "__debug__") = false)
    (h : ∀ (AA : Around) g L' h₁ m' tk, (∀ q ∈ names.zip vals, m' q.1 = some q.2) → (∀ y ∈ names, (envX qual scope L' f cdv []).kindOf y = some .local) → (∀ y ∈ gl, (envX qual scope L' f cdv []).kindOf y = some .globalImplicit) → (∀ y ∈ names, (y == Str.ofString "__debug__") = false) → (∀ y ∈ gl, (y == Str.ofString "__debug__") = false) → Room AA k → AA.frames = some ((envOf qual scope L' f cdv) :: env :: outer) → Fr h₀ L g m → Fr g L' h₁ m' → News g L' h₁ news → Below A base (env :: outer) g → KK.In g → Top p loose mean mg mb g →
      wpAny (model prog w) AA (execs body (envOf qual scope L' f cdv))
        (fun fl s' => LeaveK h₀ L m g R (match fl with | .ret v => v | _ => .none) s')
        (fun e s' => wpAny (model prog w) AA (leaving (envOf qual scope L' f cdv) e) (fun _ s'' => R (.error e) s'') (fun e' s'' => R (.error e') s'') s')
        { s with heap := h₁, toks := tk })
    (hco : scope.isCoroutine = false) (hgen : scope.isGenerator = false) (hk : scope.kind = .function)
    (hcell : ∀ x ∈ scope.names, x.2 ≠ .cell) : codeAny (model prog w) A (.call (.ref f) ⟨vals, []⟩) R s :=
  enter names gl vals Rm B F X₀ N T hA hf hke ho hcd hbind hnd hloc hgl hdb hdg h hco hgen hk hcell
theorem enterD {env : Env} {outer : List Env} {R : Result → Shared → Prop} {name qual : Str} {params : Arguments} {body : List Stmt} {scope : Scope} {dV kV doc pm cdv ct oc : Value} {an od : Option Addr} {osl : Array (Option Value)} {f : Addr} {v : Value} (u : Value) (names gl : List Str) {k : Nat}
    (Rm : Room A (k + 1)) (B : Below A₀ base outer h₀) (F : Fr h₀ L s.heap m) (X₀ : KK.In h₀) (N : News h₀ L s.heap news) (T : Top p loose mean mg mb h₀) (hA : A.frames = some (env :: outer)) (hf : env.frame = some L) (hke : env.scope.kind = .function)
    (ho : KK.lookup f = some ⟨oc, od, .func (fnOf name qual params body scope dV kV doc pm an cdv ct), osl⟩) (hcd : codeIn KK cdv qual = true)
    (hbind : BindsTo s (fnOf name qual params body scope dV kV doc pm an cdv ct) ⟨[v], []⟩ (names.zip [v, u])) (hnd : names.Nodup) (hloc : ∀ y ∈ names, scope.names.lookup y = some .local) (hgl : ∀ y ∈ gl, scope.names.lookup y = some .globalImplicit) (hdb : ∀ y ∈ names, (y == Str.ofString "__debug__") = false) (hdg : ∀ y ∈ gl, (y == Str.ofString "__debug__") = false)
    (h : ∀ (AA : Around) g L' h₁ m' tk, (∀ q ∈ names.zip [v, u], m' q.1 = some q.2) → (∀ y ∈ names, (envX qual scope L' f cdv []).kindOf y = some .local) → (∀ y ∈ gl, (envX qual scope L' f cdv []).kindOf y = some .globalImplicit) → (∀ y ∈ names, (y == Str.ofString "__debug__") = false) → (∀ y ∈ gl, (y == Str.ofString "__debug__") = false) → Room AA k → AA.frames = some ((envOf qual scope L' f cdv) :: env :: outer) → Fr h₀ L g m → Fr g L' h₁ m' → News g L' h₁ news → Below A base (env :: outer) g → KK.In g → Top p loose mean mg mb g →
      wpAny (model prog w) AA (execs body (envOf qual scope L' f cdv))
        (fun fl s' => LeaveK h₀ L m g R (match fl with | .ret v => v | _ => .none) s')
        (fun e s' => wpAny (model prog w) AA (leaving (envOf qual scope L' f cdv) e) (fun _ s'' => R (.error e) s'') (fun e' s'' => R (.error e') s'') s')
        { s with heap := h₁, toks := tk })
    (hco : scope.isCoroutine = false) (hgen : scope.isGenerator = false) (hk : scope.kind = .function)
    (hcell : ∀ x ∈ scope.names, x.2 ≠ .cell) : codeAny (model prog w) A (.call (.ref f) ⟨[v], []⟩) R s :=
  enter names gl [v, u] Rm B F X₀ N T hA hf hke ho hcd hbind hnd hloc hgl hdb hdg h hco hgen hk hcell
end
def nSelf : List Str := [Str.ofString "self"]
def nSelfT : List Str := [Str.ofString "self", Str.ofString "address_type"]
def nSelfM : List Str := [Str.ofString "self", Str.ofString "msg"]
def gN : List Str := []
def gM : List Str := [Str.ofString "AddressingMode"]
def gT : List Str := [Str.ofString "TargetAddressType"]
def gMT : List Str := [Str.ofString "AddressingMode", Str.ofString "TargetAddressType"]
theorem nSelf_nd : nSelf.Nodup := by decide +kernel
theorem nSelfT_nd : nSelfT.Nodup := by decide +kernel
theorem nSelfM_nd : nSelfM.Nodup := by decide +kernel
theorem nSelf_d : ∀ y ∈ nSelf, (y == Str.ofString "__debug__") = false := by decide +kernel
theorem nSelfT_d : ∀ y ∈ nSelfT, (y == Str.ofString "__debug__") = false := by decide +kernel
theorem nSelfM_d : ∀ y ∈ nSelfM, (y == Str.ofString "__debug__") = false := by decide +kernel
theorem gN_d : ∀ y ∈ gN, (y == Str.ofString "__debug__") = false := by decide +kernel
theorem gM_d : ∀ y ∈ gM, (y == Str.ofString "__debug__") = false := by decide +kernel
theorem gT_d : ∀ y ∈ gT, (y == Str.ofString "__debug__") = false := by decide +kernel
theorem gMT_d : ∀ y ∈ gMT, (y == Str.ofString "__debug__") = false := by decide +kernel

section
variable {prog : Program} {w : World} {A : Around} {E : Value → Shared → Prop} {s : Shared}
theorem bm_typeCall0 : checkTypeCall "bytes" ⟨[], []⟩ = pure () := by kernel_rfl
theorem bm_newCall0 : checkBuiltinCall "bytes.__new__" ⟨[.type "bytes"], []⟩ = pure () := by kernel_rfl
theorem bm_bind0 : Builtin.Bytes.bindOptional "bytes.__new__" "bytes" ["source", "encoding", "errors"] [] [] = pure [none, none, none] := by kernel_rfl
theorem bm_new0 {Q : Value → Shared → Prop} (hQ : ∀ t k, Q (.bytes #[] t) { s with toks := k }) :
    codeAny (model prog w) A (.call (.builtin "bytes.__new__") ⟨[.type "bytes"], []⟩) (wants Q E) s := by
  refine codeAny_of_tree ?_
  show wpAny _ A.in1 (do checkBuiltinCall "bytes.__new__" ⟨[.type "bytes"], []⟩; again (.builtin "bytes.__new__" ⟨[.type "bytes"], []⟩)) _ _ s
  refine wpAny_bind (wpAny_of_eq bm_newCall0 (wpAny_pure ⟨plainId_quiet F.bm_plain _, codeAny_builtin F.bm_entry ?_⟩))
  rw [Around.under_plainId F.bm_plain _]
  unfold Builtin.«bytes.__new__»
  refine wpAny_bind (wpAny_of_eq (a := true) rfl ?_)
  refine bm_if_false rfl ?_
  refine wpAny_bind (wpAny_of_eq F.bm_sub ?_)
  refine bm_if_false rfl ?_
  refine wpAny_bind (wpAny_of_eq bm_bind0 ?_)
  refine wpAny_bind (wpAny_of_eq (a := ()) rfl ?_)
  refine wpAny_bind (wpAny_of_eq (a := ()) rfl ?_)
  dsimp only
  refine bm_if_false rfl ?_
  refine wpAny_bind ?_
  unfold mkBytes
  rw [if_neg (by decide)]
  refine wpAny_bind (wpAny_fresh ?_)
  refine wpAny_pure ?_
  refine bm_if_true (by rfl) ?_
  exact wpAny_pure (hQ _ _)

theorem call_bytes_nil {Q : Value → Shared → Prop} (hQ : ∀ t k, Q (.bytes #[] t) { s with toks := k }) : wpAny (model prog w) A (call (.type "bytes") []) Q E s := by
  refine callType_codes (Q₁ := fun obj s₁ => s₁.TypeIs obj "bytes" ∧ Q obj s₁) F.bm_called bm_typeCall0 F.entry_object_init
    (bm_new0 fun t k => ⟨PySem.W.typeIs_bytes _ _ _, hQ t k⟩) fun obj s₁ h₁ => ?_
  exact ⟨h₁.1, F.args_object_init_1 obj, object_init_meets F.bm_called.init.lookup F.bm_called.made (by decide) prog w A.in1 _ s₁ ⟨h₁.1, rfl, h₁.2⟩⟩
end

/-- names of builtins that the program reads -/
inductive Bi : Str → Value → Prop
  | isinstance : Bi (Str.ofString "isinstance") (.builtin "isinstance")
  | int : Bi (Str.ofString "int") (.type "int")
  | bytes : Bi (Str.ofString "bytes") (.type "bytes")
  | len : Bi (Str.ofString "len") (.builtin "len")
  | range : Bi (Str.ofString "range") (.type "range")
  | list : Bi (Str.ofString "list") (.type "list")
  | abs : Bi (Str.ofString "abs") (.builtin "abs")
theorem Bi.fact (w : World) {x : Str} {v : Value} (h : Bi x v) : nsIn (KF w.params) mainGlobals x = some none ∧ bootBuiltins x = some v ∧ x ≠ Str.ofString "__name__" ∧ (x == Str.ofString "__debug__") = false := by
  cases h <;> exact ⟨by kernel_rfl, by kernel_rfl, by decide +kernel, by decide +kernel⟩
section
variable {prog : Program} {w : World} {A : Around} {E : Value → Shared → Prop} {s : Shared} {h₀ : Heap} {L a x dx : Addr} {m mg mb : Str → Option Value} {cn : Str} {cs : Scope} {ccd : Value} {cl : List (Str × Addr)} {p : Program} {loose : List Str} {mean : ExcName → Option Value} {news rest : Led} {es : List DictEntry} {n : Nat} {al : List (Nat × Value)}
theorem nb {y : Str} {v : Value} {p₁ : Pos} {Q : Value → Shared → Prop} (F : Fr h₀ L s.heap m) (X : (KF w.params).In h₀) (T : Top p loose mean mg mb h₀) (b : Bi y v) (h : Q v s)
    (hk : cs.kind = .function := by rfl) (hx : (envX cn cs L a ccd cl).kindOf y = some .globalImplicit := by rfl) : wpAny (model prog w) A (eval (.Name y p₁) (envX cn cs L a ccd cl)) Q E s :=
  nameX_B F X (topRead_of T) (b.fact w).1 (b.fact w).2.1 (b.fact w).2.2.1 h hk hx (b.fact w).2.2.2
/-- not isinstance(self.name, int), an int there -/
theorem notInst {name : Str} {i : Nat} {j : Int} {t : Tok} {p₁ p₂ p₃ p₄ p₅ p₆ : Pos} {whole : Sem Value} {Q : Bool → Shared → Prop} (F : Fr h₀ L s.heap m) (X : (KF w.params).In h₀) (T : Top p loose mean mg mb h₀) (N : News h₀ L s.heap news) (h1 : (x, instObj 1036 dx) ∈ news) (h2 : (dx, dictOf es n) ∈ news) (H : Has es al)
    (hm : m (Str.ofString "self") = some (.ref x)) (hn : Nm name i) (hv : al.lookup i = some (.int j t)) (h : Q false { s with toks := s.toks + 1 })
    (hk : cs.kind = .function := by rfl) (hx : (envX cn cs L a ccd cl).kindOf (Str.ofString "self") = some .local := by rfl)
    (hg1 : (envX cn cs L a ccd cl).kindOf (Str.ofString "isinstance") = some .globalImplicit := by rfl) (hg2 : (envX cn cs L a ccd cl).kindOf (Str.ofString "int") = some .globalImplicit := by rfl) :
    wpAny (model prog w) A (isTrue (.UnaryOp .Not (.Call (.Name (Str.ofString "isinstance") p₁) [.Attribute (.Name (Str.ofString "self") p₂) name p₃, .Name (Str.ofString "int") p₄] [] p₅) p₆) (envX cn cs L a ccd cl) whole) Q E s := by
  refine isTrue_not (isTrue_plain (Call_ ?_))
  refine nb F X T .isinstance ?_ hk hg1
  refine PyProof.Rows.callWith_builtin1 ?_
  refine spliced_more ?_
  refine rd F X N h1 h2 H hm hn hv rfl ?_ hk hx
  refine spliced_more ?_
  refine nb (s := { s with toks := s.toks + 1 }) F X T .int ?_ hk hg2
  refine spliced_none ?_
  exact call_isinstance_yes (typeIs_int _ _ _) meta_int sub_int_int (wpAny_truthy_bool h)
/-- the temporary list is dropped behind bytes([j]) -/
theorem bytes_top {l : Addr} {j : Int} {t : Tok} {k : Nat} {Q : Value → Shared → Prop} (F : Fr h₀ L s.heap m) (N : News h₀ L s.heap ((l, listOf #[.int j t] 0) :: news)) (R : Room A k) (h0 : 0 ≤ j) (h1 : j < 256)
    (h : ∀ h' t' k', Fr h₀ L h' m → News h₀ L h' news → Q (.bytes (oct j) t') { s with heap := h', toks := k' }) : wpAny (model prog w) A (call (.type "bytes") [.ref l]) Q E s :=
  bytes_K (vs := [.int j t]) (ns := [j]) F N ⟨_, N.get (.head _), rfl, 0, rfl⟩ (.cons _ _ .nil) (fun n hn => by rw [List.mem_singleton.mp hn]; exact ⟨h0, h1⟩) (Nat.le_of_lt (show 1 < sizeLine from by decide)) R.h
    fun h' t' k' F' N' _ => h h' t' k' F' fun q hq => N' q (.tail _ hq)
end
theorem iteNF {a b : Prop} (h : a) : if ((!false) = true) then a else b := PySem.W.ite_pos rfl h
theorem iteNT {a b : Prop} (h : b) : if ((!true) = true) then a else b := PySem.W.ite_neg (by decide) h

section
variable {prog : Program} {w : World} {A : Around} {E : Value → Shared → Prop} {hp : Heap} {gs : Array GenState} {dr : Drawn} {tk₀ : Nat} {os : OsState} {h₀ : Heap} {L a x dx : Addr} {m mg mb : Str → Option Value} {cn : Str} {cs : Scope} {ccd : Value} {p : Program} {loose : List Str} {mean : ExcName → Option Value} {news rest : Led} {es : List DictEntry} {n : Nat} {al : List (Nat × Value)}
theorem rd' {name : Str} {i : Nat} {v : Value} {p₁ p₂ : Pos} {Q : Value → Shared → Prop} (F : Fr h₀ L hp m) (X : (KF w.params).In h₀) (N : News h₀ L hp news) (h1 : (x, instObj 1036 dx) ∈ news) (h2 : (dx, dictOf es n) ∈ news) (H : Has es al) (hm : m (Str.ofString "self") = some (.ref x)) (hn : Nm name i) (hv : al.lookup i = some v) (hh : handedIn v = true) (h : ∀ tk, Q v ⟨hp, gs, dr, tk, os⟩) (hk : cs.kind = .function := by rfl) (hx : (envX cn cs L a ccd []).kindOf (Str.ofString "self") = some .local := by rfl) :
    wpAny (model prog w) A (eval (.Attribute (.Name (Str.ofString "self") p₁) name p₂) (envOf cn cs L a ccd)) Q E ⟨hp, gs, dr, tk₀, os⟩ :=
  rd (s := ⟨hp, gs, dr, tk₀, os⟩) F X N h1 h2 H hm hn hv hh (h _) hk hx
theorem nmL {M : Model} {y : Str} {v : Value} {p₁ : Pos} {Q : Value → Shared → Prop} (F : Fr h₀ L hp m) (hv : m y = some v) (h : Q v ⟨hp, gs, dr, tk₀, os⟩) (hk : cs.kind = .function := by rfl) (hx : (envX cn cs L a ccd []).kindOf y = some .local := by rfl) (hd : (y == ("__debug__" : Str)) = false := by decide) :
    wpAny M A (eval (.Name y p₁) (envOf cn cs L a ccd)) Q E ⟨hp, gs, dr, tk₀, os⟩ :=
  nameX_L (s := ⟨hp, gs, dr, tk₀, os⟩) F hv h hk hx hd
theorem sa' {name : Str} {i : Nat} {v : Value} {Q : Unit → Shared → Prop} (F : Fr h₀ L hp m) (X : (KF w.params).In h₀) (N : News h₀ L hp ((x, instObj 1036 dx) :: (dx, dictOf es n) :: rest)) (hxd : x ≠ dx) (hr : ∀ q ∈ rest, q.1 ≠ dx) (H : Has es al) (hb : al.length ≤ 900) (hn : Nm name i) (h : ∀ h' es' n' tk, Fr h₀ L h' m → News h₀ L h' ((x, instObj 1036 dx) :: (dx, dictOf es' n') :: rest) → Has es' ((i, v) :: al) → Q () ⟨h', gs, dr, tk, os⟩) :
    wpAny (model prog w) A (setAttr (.ref x) name v) Q E ⟨hp, gs, dr, tk₀, os⟩ :=
  sa (s := ⟨hp, gs, dr, tk₀, os⟩) F X N hxd hr H hb hn (fun h' es' n' F' N' H' => h h' es' n' _ F' N' H')
theorem asn' {name y : Str} {i : Nat} {v : Value} {p₁ p₂ p₃ p₄ : Pos} {Q : Flow → Shared → Prop} (F : Fr h₀ L hp m) (X : (KF w.params).In h₀) (N : News h₀ L hp ((x, instObj 1036 dx) :: (dx, dictOf es n) :: rest)) (hxd : x ≠ dx) (hr : ∀ q ∈ rest, q.1 ≠ dx) (H : Has es al) (hb : al.length ≤ 900) (hm : m (Str.ofString "self") = some (.ref x)) (hy : m y = some v) (hn : Nm name i) (h : ∀ h' es' n' tk, Fr h₀ L h' m → News h₀ L h' ((x, instObj 1036 dx) :: (dx, dictOf es' n') :: rest) → Has es' ((i, v) :: al) → Q .next ⟨h', gs, dr, tk, os⟩) (hk : cs.kind = .function := by rfl) (hx : (envX cn cs L a ccd []).kindOf (Str.ofString "self") = some .local := by rfl) (hx' : (envX cn cs L a ccd []).kindOf y = some .local := by rfl) (hd : (y == ("__debug__" : Str)) = false := by decide) (hs : swapsWith (.Name y p₁) (some (.Attribute (.Name (Str.ofString "self") p₂) name p₃)) p₄.line (envOf cn cs L a ccd) = pure false := by rfl) :
    wpAny (model prog w) A (exec (.Assign [.Attribute (.Name (Str.ofString "self") p₂) name p₃] (.Name y p₁) p₄) (envOf cn cs L a ccd)) Q E ⟨hp, gs, dr, tk₀, os⟩ :=
  asn (s := ⟨hp, gs, dr, tk₀, os⟩) F X N hxd hr H hb hm hy hn (fun h' es' n' F' N' H' => h h' es' n' _ F' N' H') hk hx hx' hd hs
theorem en' {c name : Str} {C b : Addr} {p₁ p₂ : Pos} {Q : Value → Shared → Prop} (F : Fr h₀ L hp m) (X : (KF w.params).In h₀) (T : Top p loose mean mg mb h₀) (e : En c C name b) (h : ∀ tk, Q (.ref b) ⟨hp, gs, dr, tk, os⟩) (hk : cs.kind = .function := by rfl) (hx : (envX cn cs L a ccd []).kindOf c = some .globalImplicit := by rfl) (hd : (c == ("__debug__" : Str)) = false := by decide) :
    wpAny (model prog w) A (eval (.Attribute (.Name c p₁) name p₂) (envOf cn cs L a ccd)) Q E ⟨hp, gs, dr, tk₀, os⟩ :=
  en (s := ⟨hp, gs, dr, tk₀, os⟩) F X T e (h _) hk hx hd
theorem isIn' {name : Str} {i : Nat} {b : Addr} {l : List Expr} {bs : List Addr} {r : Bool} {p₁ p₂ p₃ p₄ : Pos} {whole : Sem Value} {Q : Bool → Shared → Prop} (F : Fr h₀ L hp m) (X : (KF w.params).In h₀) (T : Top p loose mean mg mb h₀) (N : News h₀ L hp news) (h1 : (x, instObj 1036 dx) ∈ news) (h2 : (dx, dictOf es n) ∈ news) (H : Has es al) (hu : A.units + 8 < cLine) (hm : m (Str.ofString "self") = some (.ref x)) (hn : Nm name i) (hv : al.lookup i = some (.ref b)) (mb' : Mem 618 b) (hl : EnM l bs) (hr : decide (b ∈ bs) = r) (hz : l.length ≤ 100) (h : ∀ h' tk, Fr h₀ L h' m → News h₀ L h' news → Q r ⟨h', gs, dr, tk, os⟩) (hk : cs.kind = .function := by rfl) (hx : (envX cn cs L a ccd []).kindOf (Str.ofString "self") = some .local := by rfl) (hx' : (envX cn cs L a ccd []).kindOf (Str.ofString "AddressingMode") = some .globalImplicit := by rfl) (hb : behindInMarks .In (.List l p₃) = false := by rfl) :
    wpAny (model prog w) A (isTrue (.Compare (.Attribute (.Name (Str.ofString "self") p₁) name p₂) [.In] [.List l p₃] p₄) (envOf cn cs L a ccd) whole) Q E ⟨hp, gs, dr, tk₀, os⟩ :=
  isIn (s := ⟨hp, gs, dr, tk₀, os⟩) F X T N h1 h2 H hu hm hn hv mb' hl hr hz h hk hx hx' hb
theorem isNotIn' {name : Str} {i : Nat} {b : Addr} {l : List Expr} {bs : List Addr} {r : Bool} {p₁ p₂ p₃ p₄ : Pos} {whole : Sem Value} {Q : Bool → Shared → Prop} (F : Fr h₀ L hp m) (X : (KF w.params).In h₀) (T : Top p loose mean mg mb h₀) (N : News h₀ L hp news) (h1 : (x, instObj 1036 dx) ∈ news) (h2 : (dx, dictOf es n) ∈ news) (H : Has es al) (hu : A.units + 8 < cLine) (hm : m (Str.ofString "self") = some (.ref x)) (hn : Nm name i) (hv : al.lookup i = some (.ref b)) (mb' : Mem 618 b) (hl : EnM l bs) (hr : (!decide (b ∈ bs)) = r) (hz : l.length ≤ 100) (h : ∀ h' tk, Fr h₀ L h' m → News h₀ L h' news → Q r ⟨h', gs, dr, tk, os⟩) (hk : cs.kind = .function := by rfl) (hx : (envX cn cs L a ccd []).kindOf (Str.ofString "self") = some .local := by rfl) (hx' : (envX cn cs L a ccd []).kindOf (Str.ofString "AddressingMode") = some .globalImplicit := by rfl) (hb : behindInMarks .NotIn (.List l p₃) = false := by rfl) :
    wpAny (model prog w) A (isTrue (.Compare (.Attribute (.Name (Str.ofString "self") p₁) name p₂) [.NotIn] [.List l p₃] p₄) (envOf cn cs L a ccd) whole) Q E ⟨hp, gs, dr, tk₀, os⟩ :=
  isNotIn (s := ⟨hp, gs, dr, tk₀, os⟩) F X T N h1 h2 H hu hm hn hv mb' hl hr hz h hk hx hx' hb
theorem isInT' {name : Str} {i : Nat} {b : Addr} {l : List Expr} {bs : List Addr} {r : Bool} {k₀ : Nat} {p₁ p₂ p₃ p₄ : Pos} {whole : Sem Value} {Q : Bool → Shared → Prop} (F : Fr h₀ L hp m) (X : (KF w.params).In h₀) (T : Top p loose mean mg mb h₀) (N : News h₀ L hp news) (h1 : (x, instObj 1036 dx) ∈ news) (h2 : (dx, dictOf es n) ∈ news) (H : Has es al) (hu : A.units + 8 < cLine) (hm : m (Str.ofString "self") = some (.ref x)) (hn : Nm name i) (hv : al.lookup i = some (.ref b)) (mb' : Mem 618 b) (hl : EnM l bs) (hr : decide (b ∈ bs) = r) (hz : l.length ≤ 100) (h : ∀ h' tk, Fr h₀ L h' m → News h₀ L h' news → Q r ⟨h', gs, dr, tk, os⟩) (hk : cs.kind = .function := by rfl) (hx : (envX cn cs L a ccd []).kindOf (Str.ofString "self") = some .local := by rfl) (hx' : (envX cn cs L a ccd []).kindOf (Str.ofString "AddressingMode") = some .globalImplicit := by rfl) (hb : behindInMarks .In (.Tuple l k₀ p₃) = false := by rfl) :
    wpAny (model prog w) A (isTrue (.Compare (.Attribute (.Name (Str.ofString "self") p₁) name p₂) [.In] [.Tuple l k₀ p₃] p₄) (envOf cn cs L a ccd) whole) Q E ⟨hp, gs, dr, tk₀, os⟩ :=
  isInT (s := ⟨hp, gs, dr, tk₀, os⟩) F X T N h1 h2 H hu hm hn hv mb' hl hr hz h hk hx hx' hb
theorem isEq' {name c nm : Str} {C b b' : Addr} {i : Nat} {r : Bool} {p₁ p₂ p₃ p₄ p₅ : Pos} {whole : Sem Value} {Q : Bool → Shared → Prop} (F : Fr h₀ L hp m) (X : (KF w.params).In h₀) (T : Top p loose mean mg mb h₀) (N : News h₀ L hp news) (h1 : (x, instObj 1036 dx) ∈ news) (h2 : (dx, dictOf es n) ∈ news) (H : Has es al) (hu : A.units + 8 < cLine) (hm : m (Str.ofString "self") = some (.ref x)) (hn : Nm name i) (hv : al.lookup i = some (.ref b)) (mb' : Mem C b) (e : En c C nm b') (hr : decide (b = b') = r) (h : ∀ tk, Q r ⟨hp, gs, dr, tk, os⟩) (hk : cs.kind = .function := by rfl) (hx : (envX cn cs L a ccd []).kindOf (Str.ofString "self") = some .local := by rfl) (hx' : (envX cn cs L a ccd []).kindOf c = some .globalImplicit := by rfl) (hd : (c == ("__debug__" : Str)) = false := by decide) :
    wpAny (model prog w) A (isTrue (.Compare (.Attribute (.Name (Str.ofString "self") p₁) name p₂) [.Eq] [.Attribute (.Name c p₃) nm p₄] p₅) (envOf cn cs L a ccd) whole) Q E ⟨hp, gs, dr, tk₀, os⟩ :=
  isEq (s := ⟨hp, gs, dr, tk₀, os⟩) F X T N h1 h2 H hu hm hn hv mb' e hr (h _) hk hx hx' hd
theorem isEqN' {y c nm : Str} {C b b' : Addr} {r : Bool} {p₁ p₃ p₄ p₅ : Pos} {whole : Sem Value} {Q : Bool → Shared → Prop} (F : Fr h₀ L hp m) (X : (KF w.params).In h₀) (T : Top p loose mean mg mb h₀) (hu : A.units + 8 < cLine) (hm : m y = some (.ref b)) (mb' : Mem C b) (e : En c C nm b') (hr : decide (b = b') = r) (h : ∀ tk, Q r ⟨hp, gs, dr, tk, os⟩) (hk : cs.kind = .function := by rfl) (hx : (envX cn cs L a ccd []).kindOf y = some .local := by rfl) (hdy : (y == ("__debug__" : Str)) = false := by decide) (hx' : (envX cn cs L a ccd []).kindOf c = some .globalImplicit := by rfl) (hd : (c == ("__debug__" : Str)) = false := by decide) :
    wpAny (model prog w) A (isTrue (.Compare (.Name y p₁) [.Eq] [.Attribute (.Name c p₃) nm p₄] p₅) (envOf cn cs L a ccd) whole) Q E ⟨hp, gs, dr, tk₀, os⟩ :=
  isEqN (s := ⟨hp, gs, dr, tk₀, os⟩) F X T hu hm mb' e hr (h _) hk hx hdy hx' hd
theorem isNone' {name : Str} {i : Nat} {v : Value} {r : Bool} {k₀ : Nat} {p₁ p₂ p₃ p₄ : Pos} {whole : Sem Value} {Q : Bool → Shared → Prop} (F : Fr h₀ L hp m) (X : (KF w.params).In h₀) (N : News h₀ L hp news) (h1 : (x, instObj 1036 dx) ∈ news) (h2 : (dx, dictOf es n) ∈ news) (H : Has es al) (hm : m (Str.ofString "self") = some (.ref x)) (hn : Nm name i) (hv : al.lookup i = some v) (hr : (v == .none) = r) (hh : handedIn v = true) (h : ∀ tk, Q r ⟨hp, gs, dr, tk, os⟩) (hk : cs.kind = .function := by rfl) (hx : (envX cn cs L a ccd []).kindOf (Str.ofString "self") = some .local := by rfl) :
    wpAny (model prog w) A (isTrue (.Compare (.Attribute (.Name (Str.ofString "self") p₁) name p₂) [.Is] [.Constant .none k₀ p₃] p₄) (envOf cn cs L a ccd) whole) Q E ⟨hp, gs, dr, tk₀, os⟩ :=
  isNone (s := ⟨hp, gs, dr, tk₀, os⟩) F X N h1 h2 H hm hn hv hr hh (h _) hk hx
theorem isNotNone' {name : Str} {i : Nat} {v : Value} {r : Bool} {k₀ : Nat} {p₁ p₂ p₃ p₄ : Pos} {whole : Sem Value} {Q : Bool → Shared → Prop} (F : Fr h₀ L hp m) (X : (KF w.params).In h₀) (N : News h₀ L hp news) (h1 : (x, instObj 1036 dx) ∈ news) (h2 : (dx, dictOf es n) ∈ news) (H : Has es al) (hm : m (Str.ofString "self") = some (.ref x)) (hn : Nm name i) (hv : al.lookup i = some v) (hr : (!(v == .none)) = r) (hh : handedIn v = true) (h : ∀ tk, Q r ⟨hp, gs, dr, tk, os⟩) (hk : cs.kind = .function := by rfl) (hx : (envX cn cs L a ccd []).kindOf (Str.ofString "self") = some .local := by rfl) :
    wpAny (model prog w) A (isTrue (.Compare (.Attribute (.Name (Str.ofString "self") p₁) name p₂) [.IsNot] [.Constant .none k₀ p₃] p₄) (envOf cn cs L a ccd) whole) Q E ⟨hp, gs, dr, tk₀, os⟩ :=
  isNotNone (s := ⟨hp, gs, dr, tk₀, os⟩) F X N h1 h2 H hm hn hv hr hh (h _) hk hx
theorem callN0' {pl : Sem Bool} {y name : Str} {i : Nat} {f : Addr} {p₁ p₂ p₃ : Pos} {Q : Value → Shared → Prop} (F : Fr h₀ L hp m) (X : (KF w.params).In h₀) (N : News h₀ L hp news) (h1 : (x, instObj 1036 dx) ∈ news) (h2 : (dx, dictOf es n) ∈ news) (H : Has es al) (hm : m y = some (.ref x)) (hn : Mt name i f) (hv : al.lookup i = none) (h : wpAny (model prog w) A (call (.ref f) [.ref x]) Q E ⟨hp, gs, dr, tk₀, os⟩) (hk : cs.kind = .function := by rfl) (hx : (envX cn cs L a ccd []).kindOf y = some .local := by rfl) (hd : (y == ("__debug__" : Str)) = false := by decide) (he : eval (.Call (.Attribute (.Name y p₁) name p₂) [] [] p₃) (envOf cn cs L a ccd) = (do
      let ov ← eval (.Name y p₁) (envOf cn cs L a ccd)
      standAt p₂.atName
      let (f, first) ← holding [ov] (getMethod ov name pl)
      callWith p₃ f first (backTo p₃ (starEach [] (envOf cn cs L a ccd))) [])) :
    wpAny (model prog w) A (eval (.Call (.Attribute (.Name y p₁) name p₂) [] [] p₃) (envOf cn cs L a ccd)) Q E ⟨hp, gs, dr, tk₀, os⟩ :=
  callN0 (s := ⟨hp, gs, dr, tk₀, os⟩) F X N h1 h2 H hm hn hv h hk hx hd he
theorem callN1e' {pl : Sem Bool} {y name c nm : Str} {C b : Addr} {i : Nat} {f : Addr} {p₁ p₂ p₃ p₄ p₅ : Pos} {Q : Value → Shared → Prop} (F : Fr h₀ L hp m) (X : (KF w.params).In h₀) (T : Top p loose mean mg mb h₀) (N : News h₀ L hp news) (h1 : (x, instObj 1036 dx) ∈ news) (h2 : (dx, dictOf es n) ∈ news) (H : Has es al) (hm : m y = some (.ref x)) (hn : Mt name i f) (hv : al.lookup i = none) (e : En c C nm b) (h : ∀ tk, wpAny (model prog w) A (call (.ref f) [.ref x, .ref b]) Q E ⟨hp, gs, dr, tk, os⟩) (hk : cs.kind = .function := by rfl) (hx : (envX cn cs L a ccd []).kindOf y = some .local := by rfl) (hd : (y == ("__debug__" : Str)) = false := by decide) (hx' : (envX cn cs L a ccd []).kindOf c = some .globalImplicit := by rfl) (hd' : (c == ("__debug__" : Str)) = false := by decide) (he : eval (.Call (.Attribute (.Name y p₁) name p₂) [.Attribute (.Name c p₄) nm p₅] [] p₃) (envOf cn cs L a ccd) = (do
      let ov ← eval (.Name y p₁) (envOf cn cs L a ccd)
      standAt p₂.atName
      let (f, first) ← holding [ov] (getMethod ov name pl)
      callWith p₃ f first (backTo p₃ (starEach [.Attribute (.Name c p₄) nm p₅] (envOf cn cs L a ccd))) [])) :
    wpAny (model prog w) A (eval (.Call (.Attribute (.Name y p₁) name p₂) [.Attribute (.Name c p₄) nm p₅] [] p₃) (envOf cn cs L a ccd)) Q E ⟨hp, gs, dr, tk₀, os⟩ :=
  callN1e (s := ⟨hp, gs, dr, tk₀, os⟩) F X T N h1 h2 H hm hn hv e h hk hx hd hx' hd' he
theorem callN1' {pl : Sem Bool} {y z name : Str} {v : Value} {i : Nat} {f : Addr} {p₁ p₂ p₃ p₄ : Pos} {Q : Value → Shared → Prop} (F : Fr h₀ L hp m) (X : (KF w.params).In h₀) (N : News h₀ L hp news) (h1 : (x, instObj 1036 dx) ∈ news) (h2 : (dx, dictOf es n) ∈ news) (H : Has es al) (hm : m y = some (.ref x)) (hz : m z = some v) (hn : Mt name i f) (hv : al.lookup i = none) (h : wpAny (model prog w) A (call (.ref f) [.ref x, v]) Q E ⟨hp, gs, dr, tk₀, os⟩) (hk : cs.kind = .function := by rfl) (hx : (envX cn cs L a ccd []).kindOf y = some .local := by rfl) (hd : (y == ("__debug__" : Str)) = false := by decide) (hx' : (envX cn cs L a ccd []).kindOf z = some .local := by rfl) (hd' : (z == ("__debug__" : Str)) = false := by decide) (he : eval (.Call (.Attribute (.Name y p₁) name p₂) [.Name z p₄] [] p₃) (envOf cn cs L a ccd) = (do
      let ov ← eval (.Name y p₁) (envOf cn cs L a ccd)
      standAt p₂.atName
      let (f, first) ← holding [ov] (getMethod ov name pl)
      callWith p₃ f first (backTo p₃ (starEach [.Name z p₄] (envOf cn cs L a ccd))) [])) :
    wpAny (model prog w) A (eval (.Call (.Attribute (.Name y p₁) name p₂) [.Name z p₄] [] p₃) (envOf cn cs L a ccd)) Q E ⟨hp, gs, dr, tk₀, os⟩ :=
  callN1 (s := ⟨hp, gs, dr, tk₀, os⟩) F X N h1 h2 H hm hz hn hv h hk hx hd hx' hd' he
theorem nb' {y : Str} {v : Value} {p₁ : Pos} {Q : Value → Shared → Prop} (F : Fr h₀ L hp m) (X : (KF w.params).In h₀) (T : Top p loose mean mg mb h₀) (b : Bi y v) (h : Q v ⟨hp, gs, dr, tk₀, os⟩) (hk : cs.kind = .function := by rfl) (hx : (envX cn cs L a ccd []).kindOf y = some .globalImplicit := by rfl) :
    wpAny (model prog w) A (eval (.Name y p₁) (envOf cn cs L a ccd)) Q E ⟨hp, gs, dr, tk₀, os⟩ :=
  nb (s := ⟨hp, gs, dr, tk₀, os⟩) F X T b h hk hx
theorem notInst' {name : Str} {i : Nat} {j : Int} {t : Tok} {p₁ p₂ p₃ p₄ p₅ p₆ : Pos} {whole : Sem Value} {Q : Bool → Shared → Prop} (F : Fr h₀ L hp m) (X : (KF w.params).In h₀) (T : Top p loose mean mg mb h₀) (N : News h₀ L hp news) (h1 : (x, instObj 1036 dx) ∈ news) (h2 : (dx, dictOf es n) ∈ news) (H : Has es al) (hm : m (Str.ofString "self") = some (.ref x)) (hn : Nm name i) (hv : al.lookup i = some (.int j t)) (h : ∀ tk, Q false ⟨hp, gs, dr, tk, os⟩) (hk : cs.kind = .function := by rfl) (hx : (envX cn cs L a ccd []).kindOf (Str.ofString "self") = some .local := by rfl) (hg1 : (envX cn cs L a ccd []).kindOf (Str.ofString "isinstance") = some .globalImplicit := by rfl) (hg2 : (envX cn cs L a ccd []).kindOf (Str.ofString "int") = some .globalImplicit := by rfl) :
    wpAny (model prog w) A (isTrue (.UnaryOp .Not (.Call (.Name (Str.ofString "isinstance") p₁) [.Attribute (.Name (Str.ofString "self") p₂) name p₃, .Name (Str.ofString "int") p₄] [] p₅) p₆) (envOf cn cs L a ccd) whole) Q E ⟨hp, gs, dr, tk₀, os⟩ :=
  notInst (s := ⟨hp, gs, dr, tk₀, os⟩) F X T N h1 h2 H hm hn hv (h _) hk hx hg1 hg2
theorem bytes_top' {l : Addr} {j : Int} {t : Tok} {k : Nat} {Q : Value → Shared → Prop} (F : Fr h₀ L hp m) (N : News h₀ L hp ((l, listOf #[.int j t] 0) :: news)) (R : Room A k) (h0 : 0 ≤ j) (h1 : j < 256) (h : ∀ h' t' k', Fr h₀ L h' m → News h₀ L h' news → Q (.bytes (oct j) t') ⟨h', gs, dr, k', os⟩) :
    wpAny (model prog w) A (call (.type "bytes") [.ref l]) Q E ⟨hp, gs, dr, tk₀, os⟩ :=
  bytes_top (s := ⟨hp, gs, dr, tk₀, os⟩) F N R h0 h1 h
theorem bytes_nil' {Q : Value → Shared → Prop} (hQ : ∀ t k, Q (.bytes #[] t) ⟨hp, gs, dr, k, os⟩) : wpAny (model prog w) A (call (.type "bytes") []) Q E ⟨hp, gs, dr, tk₀, os⟩ :=
  call_bytes_nil (s := ⟨hp, gs, dr, tk₀, os⟩) hQ
end

section
variable {w : World} {A A₀ : Around} {s : Shared} {L : Addr} {h₀ base : Heap} {m mg mb : Str → Option Value} {news : Led} {p : Program} {loose : List Str} {mean : ExcName → Option Value} {env : Env} {outer : List Env} {R : Result → Shared → Prop} {k : Nat} {v0 v1 v2 : Value}

def nDraw : List Str := [(Str.ofString "told"), (Str.ofString "at"), (Str.ofString "below")]
theorem nDraw_d : ∀ y ∈ nDraw, (y == Str.ofString "__debug__") = false := by decide +kernel
theorem nDraw_nd : nDraw.Nodup := by decide +kernel
def nPair : List Str := [(Str.ofString "kind"), (Str.ofString "told"), (Str.ofString "at")]
theorem nPair_d : ∀ y ∈ nPair, (y == Str.ofString "__debug__") = false := by decide +kernel
theorem nPair_nd : nPair.Nodup := by decide +kernel
def nAsym : List Str := [(Str.ofString "self"), (Str.ofString "tx_addr"), (Str.ofString "rx_addr")]
theorem nAsym_d : ∀ y ∈ nAsym, (y == Str.ofString "__debug__") = false := by decide +kernel
theorem nAsym_nd : nAsym.Nodup := by decide +kernel
def gDraw : List Str := [(Str.ofString "abs"), (Str.ofString "len")]
theorem gDraw_d : ∀ y ∈ gDraw, (y == Str.ofString "__debug__") = false := by decide +kernel
def gPair : List Str := [(Str.ofString "Address"), (Str.ofString "AddressingMode"), (Str.ofString "_law_drawn")]
theorem gPair_d : ∀ y ∈ gPair, (y == Str.ofString "__debug__") = false := by decide +kernel
def gAsym : List Str := [(Str.ofString "Address"), (Str.ofString "isinstance")]
theorem gAsym_d : ∀ y ∈ gAsym, (y == Str.ofString "__debug__") = false := by decide +kernel
theorem ent876 (Rm : Room A (k + 1)) (B : Below A₀ base outer h₀) (F : Fr h₀ L s.heap m) (X₀ : (KF w.params).In h₀) (N : News h₀ L s.heap news) (T : Top p loose mean mg mb h₀) (hA : A.frames = some (env :: outer)) (hf : env.frame = some L) (hke : env.scope.kind = .function)
    (h : ∀ (AA : Around) g L' h₁ m' tk, m' (Str.ofString "self") = some v0 → (envX (Str.ofString "Address.validate") sc876 L' 876 (.ref 875) []).kindOf (Str.ofString "self") = some .local → (envX (Str.ofString "Address.validate") sc876 L' 876 (.ref 875) []).kindOf (Str.ofString "AddressingMode") = some .globalImplicit → ((Str.ofString "self") == (Str.ofString "__debug__")) = false → ((Str.ofString "AddressingMode") == (Str.ofString "__debug__")) = false → Room AA k → AA.frames = some ((envOf (Str.ofString "Address.validate") sc876 L' 876 (.ref 875)) :: env :: outer) → Fr h₀ L g m → Fr g L' h₁ m' → News g L' h₁ news → Below A base (env :: outer) g → (KF w.params).In g → Top p loose mean mg mb g →
      wpAny (model PySem.Challenge.rw_ff0002_01.row.prog w) AA (execs bd876 (envOf (Str.ofString "Address.validate") sc876 L' 876 (.ref 875)))
        (fun fl s' => LeaveK h₀ L m g R (match fl with | .ret v => v | _ => .none) s')
        (fun e s' => wpAny (model PySem.Challenge.rw_ff0002_01.row.prog w) AA (leaving (envOf (Str.ofString "Address.validate") sc876 L' 876 (.ref 875)) e) (fun _ s'' => R (.error e) s'') (fun e' s'' => R (.error e') s'') s')
        { s with heap := h₁, toks := tk }) : codeAny (model PySem.Challenge.rw_ff0002_01.row.prog w) A (.call (.ref 876) ⟨[v0], []⟩) R s := by
  have ho : (KF w.params).lookup 876 = some (ob876 w.params) := by kernel_rfl
  unfold ob876 at ho

  obtain ⟨hp, gs, dr, tkk, os⟩ := s
  (refine' enterP nSelf gM Rm B F X₀ N T hA hf hke ho ?k7 ?k9 nSelf_nd ?kl ?kg nSelf_d gM_d ?h ?c2 ?c3 ?c4 ?c5; (case k7 => kernel_rfl); (case k9 => exact rfl); (case kl => decide +kernel); (case kg => decide +kernel); (case c5 => decide); (case c2 => exact rfl); (case c3 => exact rfl); (case c4 => exact rfl))
  (case h => exact fun AA g L' h₁ m' tk hm hml hmg hmd hme => h AA g L' h₁ m' tk (hm _ (List.Mem.head _)) (hml _ (List.Mem.head _)) (hmg _ (List.Mem.head _)) (hmd _ (List.Mem.head _)) (hme _ (List.Mem.head _)))

theorem ent883 (Rm : Room A (k + 1)) (B : Below A₀ base outer h₀) (F : Fr h₀ L s.heap m) (X₀ : (KF w.params).In h₀) (N : News h₀ L s.heap news) (T : Top p loose mean mg mb h₀) (hA : A.frames = some (env :: outer)) (hf : env.frame = some L) (hke : env.scope.kind = .function)
    (h : ∀ (AA : Around) g L' h₁ m' tk, m' (Str.ofString "self") = some v0 → (envX (Str.ofString "Address.is_partial_address") sc883 L' 883 (.ref 882) []).kindOf (Str.ofString "self") = some .local → ((Str.ofString "self") == (Str.ofString "__debug__")) = false → Room AA k → AA.frames = some ((envOf (Str.ofString "Address.is_partial_address") sc883 L' 883 (.ref 882)) :: env :: outer) → Fr h₀ L g m → Fr g L' h₁ m' → News g L' h₁ news → Below A base (env :: outer) g → (KF w.params).In g → Top p loose mean mg mb g →
      wpAny (model PySem.Challenge.rw_ff0002_01.row.prog w) AA (execs bd883 (envOf (Str.ofString "Address.is_partial_address") sc883 L' 883 (.ref 882)))
        (fun fl s' => LeaveK h₀ L m g R (match fl with | .ret v => v | _ => .none) s')
        (fun e s' => wpAny (model PySem.Challenge.rw_ff0002_01.row.prog w) AA (leaving (envOf (Str.ofString "Address.is_partial_address") sc883 L' 883 (.ref 882)) e) (fun _ s'' => R (.error e) s'') (fun e' s'' => R (.error e') s'') s')
        { s with heap := h₁, toks := tk }) : codeAny (model PySem.Challenge.rw_ff0002_01.row.prog w) A (.call (.ref 883) ⟨[v0], []⟩) R s := by
  have ho : (KF w.params).lookup 883 = some (ob883 w.params) := by kernel_rfl
  unfold ob883 at ho

  obtain ⟨hp, gs, dr, tkk, os⟩ := s
  (refine' enterP nSelf gN Rm B F X₀ N T hA hf hke ho ?k7 ?k9 nSelf_nd ?kl ?kg nSelf_d gN_d ?h ?c2 ?c3 ?c4 ?c5; (case k7 => kernel_rfl); (case k9 => exact rfl); (case kl => decide +kernel); (case kg => decide +kernel); (case c5 => decide); (case c2 => exact rfl); (case c3 => exact rfl); (case c4 => exact rfl))
  (case h => exact fun AA g L' h₁ m' tk hm hml hmg hmd hme => h AA g L' h₁ m' tk (hm _ (List.Mem.head _)) (hml _ (List.Mem.head _)) (hmd _ (List.Mem.head _)))

theorem ent890 (Rm : Room A (k + 1)) (B : Below A₀ base outer h₀) (F : Fr h₀ L s.heap m) (X₀ : (KF w.params).In h₀) (N : News h₀ L s.heap news) (T : Top p loose mean mg mb h₀) (hA : A.frames = some (env :: outer)) (hf : env.frame = some L) (hke : env.scope.kind = .function)
    (h : ∀ (AA : Around) g L' h₁ m' tk, m' (Str.ofString "self") = some v0 → (envX (Str.ofString "Address.is_tx_only") sc890 L' 890 (.ref 889) []).kindOf (Str.ofString "self") = some .local → ((Str.ofString "self") == (Str.ofString "__debug__")) = false → Room AA k → AA.frames = some ((envOf (Str.ofString "Address.is_tx_only") sc890 L' 890 (.ref 889)) :: env :: outer) → Fr h₀ L g m → Fr g L' h₁ m' → News g L' h₁ news → Below A base (env :: outer) g → (KF w.params).In g → Top p loose mean mg mb g →
      wpAny (model PySem.Challenge.rw_ff0002_01.row.prog w) AA (execs bd890 (envOf (Str.ofString "Address.is_tx_only") sc890 L' 890 (.ref 889)))
        (fun fl s' => LeaveK h₀ L m g R (match fl with | .ret v => v | _ => .none) s')
        (fun e s' => wpAny (model PySem.Challenge.rw_ff0002_01.row.prog w) AA (leaving (envOf (Str.ofString "Address.is_tx_only") sc890 L' 890 (.ref 889)) e) (fun _ s'' => R (.error e) s'') (fun e' s'' => R (.error e') s'') s')
        { s with heap := h₁, toks := tk }) : codeAny (model PySem.Challenge.rw_ff0002_01.row.prog w) A (.call (.ref 890) ⟨[v0], []⟩) R s := by
  have ho : (KF w.params).lookup 890 = some (ob890 w.params) := by kernel_rfl
  unfold ob890 at ho

  obtain ⟨hp, gs, dr, tkk, os⟩ := s
  (refine' enterP nSelf gN Rm B F X₀ N T hA hf hke ho ?k7 ?k9 nSelf_nd ?kl ?kg nSelf_d gN_d ?h ?c2 ?c3 ?c4 ?c5; (case k7 => kernel_rfl); (case k9 => exact rfl); (case kl => decide +kernel); (case kg => decide +kernel); (case c5 => decide); (case c2 => exact rfl); (case c3 => exact rfl); (case c4 => exact rfl))
  (case h => exact fun AA g L' h₁ m' tk hm hml hmg hmd hme => h AA g L' h₁ m' tk (hm _ (List.Mem.head _)) (hml _ (List.Mem.head _)) (hmd _ (List.Mem.head _)))

theorem ent897 (Rm : Room A (k + 1)) (B : Below A₀ base outer h₀) (F : Fr h₀ L s.heap m) (X₀ : (KF w.params).In h₀) (N : News h₀ L s.heap news) (T : Top p loose mean mg mb h₀) (hA : A.frames = some (env :: outer)) (hf : env.frame = some L) (hke : env.scope.kind = .function)
    (h : ∀ (AA : Around) g L' h₁ m' tk, m' (Str.ofString "self") = some v0 → (envX (Str.ofString "Address.is_rx_only") sc897 L' 897 (.ref 896) []).kindOf (Str.ofString "self") = some .local → ((Str.ofString "self") == (Str.ofString "__debug__")) = false → Room AA k → AA.frames = some ((envOf (Str.ofString "Address.is_rx_only") sc897 L' 897 (.ref 896)) :: env :: outer) → Fr h₀ L g m → Fr g L' h₁ m' → News g L' h₁ news → Below A base (env :: outer) g → (KF w.params).In g → Top p loose mean mg mb g →
      wpAny (model PySem.Challenge.rw_ff0002_01.row.prog w) AA (execs bd897 (envOf (Str.ofString "Address.is_rx_only") sc897 L' 897 (.ref 896)))
        (fun fl s' => LeaveK h₀ L m g R (match fl with | .ret v => v | _ => .none) s')
        (fun e s' => wpAny (model PySem.Challenge.rw_ff0002_01.row.prog w) AA (leaving (envOf (Str.ofString "Address.is_rx_only") sc897 L' 897 (.ref 896)) e) (fun _ s'' => R (.error e) s'') (fun e' s'' => R (.error e') s'') s')
        { s with heap := h₁, toks := tk }) : codeAny (model PySem.Challenge.rw_ff0002_01.row.prog w) A (.call (.ref 897) ⟨[v0], []⟩) R s := by
  have ho : (KF w.params).lookup 897 = some (ob897 w.params) := by kernel_rfl
  unfold ob897 at ho

  obtain ⟨hp, gs, dr, tkk, os⟩ := s
  (refine' enterP nSelf gN Rm B F X₀ N T hA hf hke ho ?k7 ?k9 nSelf_nd ?kl ?kg nSelf_d gN_d ?h ?c2 ?c3 ?c4 ?c5; (case k7 => kernel_rfl); (case k9 => exact rfl); (case kl => decide +kernel); (case kg => decide +kernel); (case c5 => decide); (case c2 => exact rfl); (case c3 => exact rfl); (case c4 => exact rfl))
  (case h => exact fun AA g L' h₁ m' tk hm hml hmg hmd hme => h AA g L' h₁ m' tk (hm _ (List.Mem.head _)) (hml _ (List.Mem.head _)) (hmd _ (List.Mem.head _)))

theorem ent904 (Rm : Room A (k + 1)) (B : Below A₀ base outer h₀) (F : Fr h₀ L s.heap m) (X₀ : (KF w.params).In h₀) (N : News h₀ L s.heap news) (T : Top p loose mean mg mb h₀) (hA : A.frames = some (env :: outer)) (hf : env.frame = some L) (hke : env.scope.kind = .function)
    (h : ∀ (AA : Around) g L' h₁ m' tk, m' (Str.ofString "self") = some v0 → (envX (Str.ofString "Address.get_rx_prefix_size") sc904 L' 904 (.ref 903) []).kindOf (Str.ofString "self") = some .local → ((Str.ofString "self") == (Str.ofString "__debug__")) = false → Room AA k → AA.frames = some ((envOf (Str.ofString "Address.get_rx_prefix_size") sc904 L' 904 (.ref 903)) :: env :: outer) → Fr h₀ L g m → Fr g L' h₁ m' → News g L' h₁ news → Below A base (env :: outer) g → (KF w.params).In g → Top p loose mean mg mb g →
      wpAny (model PySem.Challenge.rw_ff0002_01.row.prog w) AA (execs bd904 (envOf (Str.ofString "Address.get_rx_prefix_size") sc904 L' 904 (.ref 903)))
        (fun fl s' => LeaveK h₀ L m g R (match fl with | .ret v => v | _ => .none) s')
        (fun e s' => wpAny (model PySem.Challenge.rw_ff0002_01.row.prog w) AA (leaving (envOf (Str.ofString "Address.get_rx_prefix_size") sc904 L' 904 (.ref 903)) e) (fun _ s'' => R (.error e) s'') (fun e' s'' => R (.error e') s'') s')
        { s with heap := h₁, toks := tk }) : codeAny (model PySem.Challenge.rw_ff0002_01.row.prog w) A (.call (.ref 904) ⟨[v0], []⟩) R s := by
  have ho : (KF w.params).lookup 904 = some (ob904 w.params) := by kernel_rfl
  unfold ob904 at ho

  obtain ⟨hp, gs, dr, tkk, os⟩ := s
  (refine' enterP nSelf gN Rm B F X₀ N T hA hf hke ho ?k7 ?k9 nSelf_nd ?kl ?kg nSelf_d gN_d ?h ?c2 ?c3 ?c4 ?c5; (case k7 => kernel_rfl); (case k9 => exact rfl); (case kl => decide +kernel); (case kg => decide +kernel); (case c5 => decide); (case c2 => exact rfl); (case c3 => exact rfl); (case c4 => exact rfl))
  (case h => exact fun AA g L' h₁ m' tk hm hml hmg hmd hme => h AA g L' h₁ m' tk (hm _ (List.Mem.head _)) (hml _ (List.Mem.head _)) (hmd _ (List.Mem.head _)))

theorem ent911 (Rm : Room A (k + 1)) (B : Below A₀ base outer h₀) (F : Fr h₀ L s.heap m) (X₀ : (KF w.params).In h₀) (N : News h₀ L s.heap news) (T : Top p loose mean mg mb h₀) (hA : A.frames = some (env :: outer)) (hf : env.frame = some L) (hke : env.scope.kind = .function)
    (h : ∀ (AA : Around) g L' h₁ m' tk, m' (Str.ofString "self") = some v0 → (envX (Str.ofString "Address.get_tx_payload_prefix") sc911 L' 911 (.ref 910) []).kindOf (Str.ofString "self") = some .local → ((Str.ofString "self") == (Str.ofString "__debug__")) = false → Room AA k → AA.frames = some ((envOf (Str.ofString "Address.get_tx_payload_prefix") sc911 L' 911 (.ref 910)) :: env :: outer) → Fr h₀ L g m → Fr g L' h₁ m' → News g L' h₁ news → Below A base (env :: outer) g → (KF w.params).In g → Top p loose mean mg mb g →
      wpAny (model PySem.Challenge.rw_ff0002_01.row.prog w) AA (execs bd911 (envOf (Str.ofString "Address.get_tx_payload_prefix") sc911 L' 911 (.ref 910)))
        (fun fl s' => LeaveK h₀ L m g R (match fl with | .ret v => v | _ => .none) s')
        (fun e s' => wpAny (model PySem.Challenge.rw_ff0002_01.row.prog w) AA (leaving (envOf (Str.ofString "Address.get_tx_payload_prefix") sc911 L' 911 (.ref 910)) e) (fun _ s'' => R (.error e) s'') (fun e' s'' => R (.error e') s'') s')
        { s with heap := h₁, toks := tk }) : codeAny (model PySem.Challenge.rw_ff0002_01.row.prog w) A (.call (.ref 911) ⟨[v0], []⟩) R s := by
  have ho : (KF w.params).lookup 911 = some (ob911 w.params) := by kernel_rfl
  unfold ob911 at ho

  obtain ⟨hp, gs, dr, tkk, os⟩ := s
  (refine' enterP nSelf gN Rm B F X₀ N T hA hf hke ho ?k7 ?k9 nSelf_nd ?kl ?kg nSelf_d gN_d ?h ?c2 ?c3 ?c4 ?c5; (case k7 => kernel_rfl); (case k9 => exact rfl); (case kl => decide +kernel); (case kg => decide +kernel); (case c5 => decide); (case c2 => exact rfl); (case c3 => exact rfl); (case c4 => exact rfl))
  (case h => exact fun AA g L' h₁ m' tk hm hml hmg hmd hme => h AA g L' h₁ m' tk (hm _ (List.Mem.head _)) (hml _ (List.Mem.head _)) (hmd _ (List.Mem.head _)))

theorem ent918 (Rm : Room A (k + 1)) (B : Below A₀ base outer h₀) (F : Fr h₀ L s.heap m) (X₀ : (KF w.params).In h₀) (N : News h₀ L s.heap news) (T : Top p loose mean mg mb h₀) (hA : A.frames = some (env :: outer)) (hf : env.frame = some L) (hke : env.scope.kind = .function)
    (h : ∀ (AA : Around) g L' h₁ m' tk, m' (Str.ofString "self") = some v0 → m' (Str.ofString "msg") = some v1 → (envX (Str.ofString "Address.is_for_me") sc918 L' 918 (.ref 917) []).kindOf (Str.ofString "self") = some .local → (envX (Str.ofString "Address.is_for_me") sc918 L' 918 (.ref 917) []).kindOf (Str.ofString "msg") = some .local → (envX (Str.ofString "Address.is_for_me") sc918 L' 918 (.ref 917) []).kindOf (Str.ofString "AddressingMode") = some .globalImplicit → ((Str.ofString "self") == (Str.ofString "__debug__")) = false → ((Str.ofString "msg") == (Str.ofString "__debug__")) = false → ((Str.ofString "AddressingMode") == (Str.ofString "__debug__")) = false → Room AA k → AA.frames = some ((envOf (Str.ofString "Address.is_for_me") sc918 L' 918 (.ref 917)) :: env :: outer) → Fr h₀ L g m → Fr g L' h₁ m' → News g L' h₁ news → Below A base (env :: outer) g → (KF w.params).In g → Top p loose mean mg mb g →
      wpAny (model PySem.Challenge.rw_ff0002_01.row.prog w) AA (execs bd918 (envOf (Str.ofString "Address.is_for_me") sc918 L' 918 (.ref 917)))
        (fun fl s' => LeaveK h₀ L m g R (match fl with | .ret v => v | _ => .none) s')
        (fun e s' => wpAny (model PySem.Challenge.rw_ff0002_01.row.prog w) AA (leaving (envOf (Str.ofString "Address.is_for_me") sc918 L' 918 (.ref 917)) e) (fun _ s'' => R (.error e) s'') (fun e' s'' => R (.error e') s'') s')
        { s with heap := h₁, toks := tk }) : codeAny (model PySem.Challenge.rw_ff0002_01.row.prog w) A (.call (.ref 918) ⟨[v0, v1], []⟩) R s := by
  have ho : (KF w.params).lookup 918 = some (ob918 w.params) := by kernel_rfl
  unfold ob918 at ho

  obtain ⟨hp, gs, dr, tkk, os⟩ := s
  (refine' enterP nSelfM gM Rm B F X₀ N T hA hf hke ho ?k7 ?k9 nSelfM_nd ?kl ?kg nSelfM_d gM_d ?h ?c2 ?c3 ?c4 ?c5; (case k7 => kernel_rfl); (case k9 => exact rfl); (case kl => decide +kernel); (case kg => decide +kernel); (case c5 => decide); (case c2 => exact rfl); (case c3 => exact rfl); (case c4 => exact rfl))
  (case h => exact fun AA g L' h₁ m' tk hm hml hmg hmd hme => h AA g L' h₁ m' tk (hm _ (List.Mem.head _)) (hm _ (List.Mem.tail _ (List.Mem.head _))) (hml _ (List.Mem.head _)) (hml _ (List.Mem.tail _ (List.Mem.head _))) (hmg _ (List.Mem.head _)) (hmd _ (List.Mem.head _)) (hmd _ (List.Mem.tail _ (List.Mem.head _))) (hme _ (List.Mem.head _)))

theorem ent926 (Rm : Room A (k + 1)) (B : Below A₀ base outer h₀) (F : Fr h₀ L s.heap m) (X₀ : (KF w.params).In h₀) (N : News h₀ L s.heap news) (T : Top p loose mean mg mb h₀) (hA : A.frames = some (env :: outer)) (hf : env.frame = some L) (hke : env.scope.kind = .function)
    (h : ∀ (AA : Around) g L' h₁ m' tk, m' (Str.ofString "self") = some v0 → m' (Str.ofString "address_type") = some v1 → (envX (Str.ofString "Address.get_tx_arbitration_id") sc926 L' 926 (.ref 925) []).kindOf (Str.ofString "self") = some .local → (envX (Str.ofString "Address.get_tx_arbitration_id") sc926 L' 926 (.ref 925) []).kindOf (Str.ofString "address_type") = some .local → (envX (Str.ofString "Address.get_tx_arbitration_id") sc926 L' 926 (.ref 925) []).kindOf (Str.ofString "TargetAddressType") = some .globalImplicit → ((Str.ofString "self") == (Str.ofString "__debug__")) = false → ((Str.ofString "address_type") == (Str.ofString "__debug__")) = false → ((Str.ofString "TargetAddressType") == (Str.ofString "__debug__")) = false → Room AA k → AA.frames = some ((envOf (Str.ofString "Address.get_tx_arbitration_id") sc926 L' 926 (.ref 925)) :: env :: outer) → Fr h₀ L g m → Fr g L' h₁ m' → News g L' h₁ news → Below A base (env :: outer) g → (KF w.params).In g → Top p loose mean mg mb g →
      wpAny (model PySem.Challenge.rw_ff0002_01.row.prog w) AA (execs bd926 (envOf (Str.ofString "Address.get_tx_arbitration_id") sc926 L' 926 (.ref 925)))
        (fun fl s' => LeaveK h₀ L m g R (match fl with | .ret v => v | _ => .none) s')
        (fun e s' => wpAny (model PySem.Challenge.rw_ff0002_01.row.prog w) AA (leaving (envOf (Str.ofString "Address.get_tx_arbitration_id") sc926 L' 926 (.ref 925)) e) (fun _ s'' => R (.error e) s'') (fun e' s'' => R (.error e') s'') s')
        { s with heap := h₁, toks := tk }) : codeAny (model PySem.Challenge.rw_ff0002_01.row.prog w) A (.call (.ref 926) ⟨[v0, v1], []⟩) R s := by
  have ho : (KF w.params).lookup 926 = some (ob926 w.params) := by kernel_rfl
  unfold ob926 at ho
  have hdv : (KF w.params).lookup 919 = some (ob919 w.params) := by kernel_rfl
  obtain ⟨hp, gs, dr, tkk, os⟩ := s
  (refine' enterB nSelfT gT Rm B F X₀ N T hA hf hke ho ?k7 ?k9 nSelfT_nd ?kl ?kg nSelfT_d gT_d ?h ?c2 ?c3 ?c4 ?c5; (case k7 => kernel_rfl); (case k9 => (refine' binds_K (T := 919) (X₀.keeps F.keep) rfl hdv rfl ?q3 ?q4; (case q3 => exact rfl); (case q4 => exact rfl))); (case kl => decide +kernel); (case kg => decide +kernel); (case c5 => decide); (case c2 => exact rfl); (case c3 => exact rfl); (case c4 => exact rfl))
  (case h => exact fun AA g L' h₁ m' tk hm hml hmg hmd hme => h AA g L' h₁ m' tk (hm _ (List.Mem.head _)) (hm _ (List.Mem.tail _ (List.Mem.head _))) (hml _ (List.Mem.head _)) (hml _ (List.Mem.tail _ (List.Mem.head _))) (hmg _ (List.Mem.head _)) (hmd _ (List.Mem.head _)) (hmd _ (List.Mem.tail _ (List.Mem.head _))) (hme _ (List.Mem.head _)))

theorem ent934 (Rm : Room A (k + 1)) (B : Below A₀ base outer h₀) (F : Fr h₀ L s.heap m) (X₀ : (KF w.params).In h₀) (N : News h₀ L s.heap news) (T : Top p loose mean mg mb h₀) (hA : A.frames = some (env :: outer)) (hf : env.frame = some L) (hke : env.scope.kind = .function)
    (h : ∀ (AA : Around) g L' h₁ m' tk, m' (Str.ofString "self") = some v0 → m' (Str.ofString "address_type") = some v1 → (envX (Str.ofString "Address.get_rx_arbitration_id") sc934 L' 934 (.ref 933) []).kindOf (Str.ofString "self") = some .local → (envX (Str.ofString "Address.get_rx_arbitration_id") sc934 L' 934 (.ref 933) []).kindOf (Str.ofString "address_type") = some .local → (envX (Str.ofString "Address.get_rx_arbitration_id") sc934 L' 934 (.ref 933) []).kindOf (Str.ofString "TargetAddressType") = some .globalImplicit → ((Str.ofString "self") == (Str.ofString "__debug__")) = false → ((Str.ofString "address_type") == (Str.ofString "__debug__")) = false → ((Str.ofString "TargetAddressType") == (Str.ofString "__debug__")) = false → Room AA k → AA.frames = some ((envOf (Str.ofString "Address.get_rx_arbitration_id") sc934 L' 934 (.ref 933)) :: env :: outer) → Fr h₀ L g m → Fr g L' h₁ m' → News g L' h₁ news → Below A base (env :: outer) g → (KF w.params).In g → Top p loose mean mg mb g →
      wpAny (model PySem.Challenge.rw_ff0002_01.row.prog w) AA (execs bd934 (envOf (Str.ofString "Address.get_rx_arbitration_id") sc934 L' 934 (.ref 933)))
        (fun fl s' => LeaveK h₀ L m g R (match fl with | .ret v => v | _ => .none) s')
        (fun e s' => wpAny (model PySem.Challenge.rw_ff0002_01.row.prog w) AA (leaving (envOf (Str.ofString "Address.get_rx_arbitration_id") sc934 L' 934 (.ref 933)) e) (fun _ s'' => R (.error e) s'') (fun e' s'' => R (.error e') s'') s')
        { s with heap := h₁, toks := tk }) : codeAny (model PySem.Challenge.rw_ff0002_01.row.prog w) A (.call (.ref 934) ⟨[v0, v1], []⟩) R s := by
  have ho : (KF w.params).lookup 934 = some (ob934 w.params) := by kernel_rfl
  unfold ob934 at ho
  have hdv : (KF w.params).lookup 927 = some (ob927 w.params) := by kernel_rfl
  obtain ⟨hp, gs, dr, tkk, os⟩ := s
  (refine' enterB nSelfT gT Rm B F X₀ N T hA hf hke ho ?k7 ?k9 nSelfT_nd ?kl ?kg nSelfT_d gT_d ?h ?c2 ?c3 ?c4 ?c5; (case k7 => kernel_rfl); (case k9 => (refine' binds_K (T := 927) (X₀.keeps F.keep) rfl hdv rfl ?q3 ?q4; (case q3 => exact rfl); (case q4 => exact rfl))); (case kl => decide +kernel); (case kg => decide +kernel); (case c5 => decide); (case c2 => exact rfl); (case c3 => exact rfl); (case c4 => exact rfl))
  (case h => exact fun AA g L' h₁ m' tk hm hml hmg hmd hme => h AA g L' h₁ m' tk (hm _ (List.Mem.head _)) (hm _ (List.Mem.tail _ (List.Mem.head _))) (hml _ (List.Mem.head _)) (hml _ (List.Mem.tail _ (List.Mem.head _))) (hmg _ (List.Mem.head _)) (hmd _ (List.Mem.head _)) (hmd _ (List.Mem.tail _ (List.Mem.head _))) (hme _ (List.Mem.head _)))

theorem ent941 (Rm : Room A (k + 1)) (B : Below A₀ base outer h₀) (F : Fr h₀ L s.heap m) (X₀ : (KF w.params).In h₀) (N : News h₀ L s.heap news) (T : Top p loose mean mg mb h₀) (hA : A.frames = some (env :: outer)) (hf : env.frame = some L) (hke : env.scope.kind = .function)
    (h : ∀ (AA : Around) g L' h₁ m' tk, m' (Str.ofString "self") = some v0 → m' (Str.ofString "address_type") = some v1 → (envX (Str.ofString "Address._get_tx_arbitration_id") sc941 L' 941 (.ref 940) []).kindOf (Str.ofString "self") = some .local → (envX (Str.ofString "Address._get_tx_arbitration_id") sc941 L' 941 (.ref 940) []).kindOf (Str.ofString "address_type") = some .local → (envX (Str.ofString "Address._get_tx_arbitration_id") sc941 L' 941 (.ref 940) []).kindOf (Str.ofString "AddressingMode") = some .globalImplicit → (envX (Str.ofString "Address._get_tx_arbitration_id") sc941 L' 941 (.ref 940) []).kindOf (Str.ofString "TargetAddressType") = some .globalImplicit → ((Str.ofString "self") == (Str.ofString "__debug__")) = false → ((Str.ofString "address_type") == (Str.ofString "__debug__")) = false → ((Str.ofString "AddressingMode") == (Str.ofString "__debug__")) = false → ((Str.ofString "TargetAddressType") == (Str.ofString "__debug__")) = false → Room AA k → AA.frames = some ((envOf (Str.ofString "Address._get_tx_arbitration_id") sc941 L' 941 (.ref 940)) :: env :: outer) → Fr h₀ L g m → Fr g L' h₁ m' → News g L' h₁ news → Below A base (env :: outer) g → (KF w.params).In g → Top p loose mean mg mb g →
      wpAny (model PySem.Challenge.rw_ff0002_01.row.prog w) AA (execs bd941 (envOf (Str.ofString "Address._get_tx_arbitration_id") sc941 L' 941 (.ref 940)))
        (fun fl s' => LeaveK h₀ L m g R (match fl with | .ret v => v | _ => .none) s')
        (fun e s' => wpAny (model PySem.Challenge.rw_ff0002_01.row.prog w) AA (leaving (envOf (Str.ofString "Address._get_tx_arbitration_id") sc941 L' 941 (.ref 940)) e) (fun _ s'' => R (.error e) s'') (fun e' s'' => R (.error e') s'') s')
        { s with heap := h₁, toks := tk }) : codeAny (model PySem.Challenge.rw_ff0002_01.row.prog w) A (.call (.ref 941) ⟨[v0, v1], []⟩) R s := by
  have ho : (KF w.params).lookup 941 = some (ob941 w.params) := by kernel_rfl
  unfold ob941 at ho

  obtain ⟨hp, gs, dr, tkk, os⟩ := s
  (refine' enterP nSelfT gMT Rm B F X₀ N T hA hf hke ho ?k7 ?k9 nSelfT_nd ?kl ?kg nSelfT_d gMT_d ?h ?c2 ?c3 ?c4 ?c5; (case k7 => kernel_rfl); (case k9 => exact rfl); (case kl => decide +kernel); (case kg => decide +kernel); (case c5 => decide); (case c2 => exact rfl); (case c3 => exact rfl); (case c4 => exact rfl))
  (case h => exact fun AA g L' h₁ m' tk hm hml hmg hmd hme => h AA g L' h₁ m' tk (hm _ (List.Mem.head _)) (hm _ (List.Mem.tail _ (List.Mem.head _))) (hml _ (List.Mem.head _)) (hml _ (List.Mem.tail _ (List.Mem.head _))) (hmg _ (List.Mem.head _)) (hmg _ (List.Mem.tail _ (List.Mem.head _))) (hmd _ (List.Mem.head _)) (hmd _ (List.Mem.tail _ (List.Mem.head _))) (hme _ (List.Mem.head _)) (hme _ (List.Mem.tail _ (List.Mem.head _))))

theorem ent949 (Rm : Room A (k + 1)) (B : Below A₀ base outer h₀) (F : Fr h₀ L s.heap m) (X₀ : (KF w.params).In h₀) (N : News h₀ L s.heap news) (T : Top p loose mean mg mb h₀) (hA : A.frames = some (env :: outer)) (hf : env.frame = some L) (hke : env.scope.kind = .function)
    (h : ∀ (AA : Around) g L' h₁ m' tk, m' (Str.ofString "self") = some v0 → m' (Str.ofString "address_type") = some v1 → (envX (Str.ofString "Address._get_rx_arbitration_id") sc949 L' 949 (.ref 948) []).kindOf (Str.ofString "self") = some .local → (envX (Str.ofString "Address._get_rx_arbitration_id") sc949 L' 949 (.ref 948) []).kindOf (Str.ofString "address_type") = some .local → (envX (Str.ofString "Address._get_rx_arbitration_id") sc949 L' 949 (.ref 948) []).kindOf (Str.ofString "AddressingMode") = some .globalImplicit → (envX (Str.ofString "Address._get_rx_arbitration_id") sc949 L' 949 (.ref 948) []).kindOf (Str.ofString "TargetAddressType") = some .globalImplicit → ((Str.ofString "self") == (Str.ofString "__debug__")) = false → ((Str.ofString "address_type") == (Str.ofString "__debug__")) = false → ((Str.ofString "AddressingMode") == (Str.ofString "__debug__")) = false → ((Str.ofString "TargetAddressType") == (Str.ofString "__debug__")) = false → Room AA k → AA.frames = some ((envOf (Str.ofString "Address._get_rx_arbitration_id") sc949 L' 949 (.ref 948)) :: env :: outer) → Fr h₀ L g m → Fr g L' h₁ m' → News g L' h₁ news → Below A base (env :: outer) g → (KF w.params).In g → Top p loose mean mg mb g →
      wpAny (model PySem.Challenge.rw_ff0002_01.row.prog w) AA (execs bd949 (envOf (Str.ofString "Address._get_rx_arbitration_id") sc949 L' 949 (.ref 948)))
        (fun fl s' => LeaveK h₀ L m g R (match fl with | .ret v => v | _ => .none) s')
        (fun e s' => wpAny (model PySem.Challenge.rw_ff0002_01.row.prog w) AA (leaving (envOf (Str.ofString "Address._get_rx_arbitration_id") sc949 L' 949 (.ref 948)) e) (fun _ s'' => R (.error e) s'') (fun e' s'' => R (.error e') s'') s')
        { s with heap := h₁, toks := tk }) : codeAny (model PySem.Challenge.rw_ff0002_01.row.prog w) A (.call (.ref 949) ⟨[v0, v1], []⟩) R s := by
  have ho : (KF w.params).lookup 949 = some (ob949 w.params) := by kernel_rfl
  unfold ob949 at ho
  have hdv : (KF w.params).lookup 942 = some (ob942 w.params) := by kernel_rfl
  obtain ⟨hp, gs, dr, tkk, os⟩ := s
  (refine' enterB nSelfT gMT Rm B F X₀ N T hA hf hke ho ?k7 ?k9 nSelfT_nd ?kl ?kg nSelfT_d gMT_d ?h ?c2 ?c3 ?c4 ?c5; (case k7 => kernel_rfl); (case k9 => (refine' binds_K (T := 942) (X₀.keeps F.keep) rfl hdv rfl ?q3 ?q4; (case q3 => exact rfl); (case q4 => exact rfl))); (case kl => decide +kernel); (case kg => decide +kernel); (case c5 => decide); (case c2 => exact rfl); (case c3 => exact rfl); (case c4 => exact rfl))
  (case h => exact fun AA g L' h₁ m' tk hm hml hmg hmd hme => h AA g L' h₁ m' tk (hm _ (List.Mem.head _)) (hm _ (List.Mem.tail _ (List.Mem.head _))) (hml _ (List.Mem.head _)) (hml _ (List.Mem.tail _ (List.Mem.head _))) (hmg _ (List.Mem.head _)) (hmg _ (List.Mem.tail _ (List.Mem.head _))) (hmd _ (List.Mem.head _)) (hmd _ (List.Mem.tail _ (List.Mem.head _))) (hme _ (List.Mem.head _)) (hme _ (List.Mem.tail _ (List.Mem.head _))))

theorem ent956 (Rm : Room A (k + 1)) (B : Below A₀ base outer h₀) (F : Fr h₀ L s.heap m) (X₀ : (KF w.params).In h₀) (N : News h₀ L s.heap news) (T : Top p loose mean mg mb h₀) (hA : A.frames = some (env :: outer)) (hf : env.frame = some L) (hke : env.scope.kind = .function)
    (h : ∀ (AA : Around) g L' h₁ m' tk, m' (Str.ofString "self") = some v0 → m' (Str.ofString "msg") = some v1 → (envX (Str.ofString "Address._is_for_me_normal") sc956 L' 956 (.ref 955) []).kindOf (Str.ofString "self") = some .local → (envX (Str.ofString "Address._is_for_me_normal") sc956 L' 956 (.ref 955) []).kindOf (Str.ofString "msg") = some .local → ((Str.ofString "self") == (Str.ofString "__debug__")) = false → ((Str.ofString "msg") == (Str.ofString "__debug__")) = false → Room AA k → AA.frames = some ((envOf (Str.ofString "Address._is_for_me_normal") sc956 L' 956 (.ref 955)) :: env :: outer) → Fr h₀ L g m → Fr g L' h₁ m' → News g L' h₁ news → Below A base (env :: outer) g → (KF w.params).In g → Top p loose mean mg mb g →
      wpAny (model PySem.Challenge.rw_ff0002_01.row.prog w) AA (execs bd956 (envOf (Str.ofString "Address._is_for_me_normal") sc956 L' 956 (.ref 955)))
        (fun fl s' => LeaveK h₀ L m g R (match fl with | .ret v => v | _ => .none) s')
        (fun e s' => wpAny (model PySem.Challenge.rw_ff0002_01.row.prog w) AA (leaving (envOf (Str.ofString "Address._is_for_me_normal") sc956 L' 956 (.ref 955)) e) (fun _ s'' => R (.error e) s'') (fun e' s'' => R (.error e') s'') s')
        { s with heap := h₁, toks := tk }) : codeAny (model PySem.Challenge.rw_ff0002_01.row.prog w) A (.call (.ref 956) ⟨[v0, v1], []⟩) R s := by
  have ho : (KF w.params).lookup 956 = some (ob956 w.params) := by kernel_rfl
  unfold ob956 at ho

  obtain ⟨hp, gs, dr, tkk, os⟩ := s
  (refine' enterP nSelfM gN Rm B F X₀ N T hA hf hke ho ?k7 ?k9 nSelfM_nd ?kl ?kg nSelfM_d gN_d ?h ?c2 ?c3 ?c4 ?c5; (case k7 => kernel_rfl); (case k9 => exact rfl); (case kl => decide +kernel); (case kg => decide +kernel); (case c5 => decide); (case c2 => exact rfl); (case c3 => exact rfl); (case c4 => exact rfl))
  (case h => exact fun AA g L' h₁ m' tk hm hml hmg hmd hme => h AA g L' h₁ m' tk (hm _ (List.Mem.head _)) (hm _ (List.Mem.tail _ (List.Mem.head _))) (hml _ (List.Mem.head _)) (hml _ (List.Mem.tail _ (List.Mem.head _))) (hmd _ (List.Mem.head _)) (hmd _ (List.Mem.tail _ (List.Mem.head _))))

theorem ent963 (Rm : Room A (k + 1)) (B : Below A₀ base outer h₀) (F : Fr h₀ L s.heap m) (X₀ : (KF w.params).In h₀) (N : News h₀ L s.heap news) (T : Top p loose mean mg mb h₀) (hA : A.frames = some (env :: outer)) (hf : env.frame = some L) (hke : env.scope.kind = .function)
    (h : ∀ (AA : Around) g L' h₁ m' tk, m' (Str.ofString "self") = some v0 → m' (Str.ofString "msg") = some v1 → (envX (Str.ofString "Address._is_for_me_extended") sc963 L' 963 (.ref 962) []).kindOf (Str.ofString "self") = some .local → (envX (Str.ofString "Address._is_for_me_extended") sc963 L' 963 (.ref 962) []).kindOf (Str.ofString "msg") = some .local → ((Str.ofString "self") == (Str.ofString "__debug__")) = false → ((Str.ofString "msg") == (Str.ofString "__debug__")) = false → Room AA k → AA.frames = some ((envOf (Str.ofString "Address._is_for_me_extended") sc963 L' 963 (.ref 962)) :: env :: outer) → Fr h₀ L g m → Fr g L' h₁ m' → News g L' h₁ news → Below A base (env :: outer) g → (KF w.params).In g → Top p loose mean mg mb g →
      wpAny (model PySem.Challenge.rw_ff0002_01.row.prog w) AA (execs bd963 (envOf (Str.ofString "Address._is_for_me_extended") sc963 L' 963 (.ref 962)))
        (fun fl s' => LeaveK h₀ L m g R (match fl with | .ret v => v | _ => .none) s')
        (fun e s' => wpAny (model PySem.Challenge.rw_ff0002_01.row.prog w) AA (leaving (envOf (Str.ofString "Address._is_for_me_extended") sc963 L' 963 (.ref 962)) e) (fun _ s'' => R (.error e) s'') (fun e' s'' => R (.error e') s'') s')
        { s with heap := h₁, toks := tk }) : codeAny (model PySem.Challenge.rw_ff0002_01.row.prog w) A (.call (.ref 963) ⟨[v0, v1], []⟩) R s := by
  have ho : (KF w.params).lookup 963 = some (ob963 w.params) := by kernel_rfl
  unfold ob963 at ho

  obtain ⟨hp, gs, dr, tkk, os⟩ := s
  (refine' enterP nSelfM gN Rm B F X₀ N T hA hf hke ho ?k7 ?k9 nSelfM_nd ?kl ?kg nSelfM_d gN_d ?h ?c2 ?c3 ?c4 ?c5; (case k7 => kernel_rfl); (case k9 => exact rfl); (case kl => decide +kernel); (case kg => decide +kernel); (case c5 => decide); (case c2 => exact rfl); (case c3 => exact rfl); (case c4 => exact rfl))
  (case h => exact fun AA g L' h₁ m' tk hm hml hmg hmd hme => h AA g L' h₁ m' tk (hm _ (List.Mem.head _)) (hm _ (List.Mem.tail _ (List.Mem.head _))) (hml _ (List.Mem.head _)) (hml _ (List.Mem.tail _ (List.Mem.head _))) (hmd _ (List.Mem.head _)) (hmd _ (List.Mem.tail _ (List.Mem.head _))))

theorem ent970 (Rm : Room A (k + 1)) (B : Below A₀ base outer h₀) (F : Fr h₀ L s.heap m) (X₀ : (KF w.params).In h₀) (N : News h₀ L s.heap news) (T : Top p loose mean mg mb h₀) (hA : A.frames = some (env :: outer)) (hf : env.frame = some L) (hke : env.scope.kind = .function)
    (h : ∀ (AA : Around) g L' h₁ m' tk, m' (Str.ofString "self") = some v0 → m' (Str.ofString "msg") = some v1 → (envX (Str.ofString "Address._is_for_me_normal_fixed") sc970 L' 970 (.ref 969) []).kindOf (Str.ofString "self") = some .local → (envX (Str.ofString "Address._is_for_me_normal_fixed") sc970 L' 970 (.ref 969) []).kindOf (Str.ofString "msg") = some .local → ((Str.ofString "self") == (Str.ofString "__debug__")) = false → ((Str.ofString "msg") == (Str.ofString "__debug__")) = false → Room AA k → AA.frames = some ((envOf (Str.ofString "Address._is_for_me_normal_fixed") sc970 L' 970 (.ref 969)) :: env :: outer) → Fr h₀ L g m → Fr g L' h₁ m' → News g L' h₁ news → Below A base (env :: outer) g → (KF w.params).In g → Top p loose mean mg mb g →
      wpAny (model PySem.Challenge.rw_ff0002_01.row.prog w) AA (execs bd970 (envOf (Str.ofString "Address._is_for_me_normal_fixed") sc970 L' 970 (.ref 969)))
        (fun fl s' => LeaveK h₀ L m g R (match fl with | .ret v => v | _ => .none) s')
        (fun e s' => wpAny (model PySem.Challenge.rw_ff0002_01.row.prog w) AA (leaving (envOf (Str.ofString "Address._is_for_me_normal_fixed") sc970 L' 970 (.ref 969)) e) (fun _ s'' => R (.error e) s'') (fun e' s'' => R (.error e') s'') s')
        { s with heap := h₁, toks := tk }) : codeAny (model PySem.Challenge.rw_ff0002_01.row.prog w) A (.call (.ref 970) ⟨[v0, v1], []⟩) R s := by
  have ho : (KF w.params).lookup 970 = some (ob970 w.params) := by kernel_rfl
  unfold ob970 at ho

  obtain ⟨hp, gs, dr, tkk, os⟩ := s
  (refine' enterP nSelfM gN Rm B F X₀ N T hA hf hke ho ?k7 ?k9 nSelfM_nd ?kl ?kg nSelfM_d gN_d ?h ?c2 ?c3 ?c4 ?c5; (case k7 => kernel_rfl); (case k9 => exact rfl); (case kl => decide +kernel); (case kg => decide +kernel); (case c5 => decide); (case c2 => exact rfl); (case c3 => exact rfl); (case c4 => exact rfl))
  (case h => exact fun AA g L' h₁ m' tk hm hml hmg hmd hme => h AA g L' h₁ m' tk (hm _ (List.Mem.head _)) (hm _ (List.Mem.tail _ (List.Mem.head _))) (hml _ (List.Mem.head _)) (hml _ (List.Mem.tail _ (List.Mem.head _))) (hmd _ (List.Mem.head _)) (hmd _ (List.Mem.tail _ (List.Mem.head _))))

theorem ent977 (Rm : Room A (k + 1)) (B : Below A₀ base outer h₀) (F : Fr h₀ L s.heap m) (X₀ : (KF w.params).In h₀) (N : News h₀ L s.heap news) (T : Top p loose mean mg mb h₀) (hA : A.frames = some (env :: outer)) (hf : env.frame = some L) (hke : env.scope.kind = .function)
    (h : ∀ (AA : Around) g L' h₁ m' tk, m' (Str.ofString "self") = some v0 → m' (Str.ofString "msg") = some v1 → (envX (Str.ofString "Address._is_for_me_mixed_11bits") sc977 L' 977 (.ref 976) []).kindOf (Str.ofString "self") = some .local → (envX (Str.ofString "Address._is_for_me_mixed_11bits") sc977 L' 977 (.ref 976) []).kindOf (Str.ofString "msg") = some .local → ((Str.ofString "self") == (Str.ofString "__debug__")) = false → ((Str.ofString "msg") == (Str.ofString "__debug__")) = false → Room AA k → AA.frames = some ((envOf (Str.ofString "Address._is_for_me_mixed_11bits") sc977 L' 977 (.ref 976)) :: env :: outer) → Fr h₀ L g m → Fr g L' h₁ m' → News g L' h₁ news → Below A base (env :: outer) g → (KF w.params).In g → Top p loose mean mg mb g →
      wpAny (model PySem.Challenge.rw_ff0002_01.row.prog w) AA (execs bd977 (envOf (Str.ofString "Address._is_for_me_mixed_11bits") sc977 L' 977 (.ref 976)))
        (fun fl s' => LeaveK h₀ L m g R (match fl with | .ret v => v | _ => .none) s')
        (fun e s' => wpAny (model PySem.Challenge.rw_ff0002_01.row.prog w) AA (leaving (envOf (Str.ofString "Address._is_for_me_mixed_11bits") sc977 L' 977 (.ref 976)) e) (fun _ s'' => R (.error e) s'') (fun e' s'' => R (.error e') s'') s')
        { s with heap := h₁, toks := tk }) : codeAny (model PySem.Challenge.rw_ff0002_01.row.prog w) A (.call (.ref 977) ⟨[v0, v1], []⟩) R s := by
  have ho : (KF w.params).lookup 977 = some (ob977 w.params) := by kernel_rfl
  unfold ob977 at ho

  obtain ⟨hp, gs, dr, tkk, os⟩ := s
  (refine' enterP nSelfM gN Rm B F X₀ N T hA hf hke ho ?k7 ?k9 nSelfM_nd ?kl ?kg nSelfM_d gN_d ?h ?c2 ?c3 ?c4 ?c5; (case k7 => kernel_rfl); (case k9 => exact rfl); (case kl => decide +kernel); (case kg => decide +kernel); (case c5 => decide); (case c2 => exact rfl); (case c3 => exact rfl); (case c4 => exact rfl))
  (case h => exact fun AA g L' h₁ m' tk hm hml hmg hmd hme => h AA g L' h₁ m' tk (hm _ (List.Mem.head _)) (hm _ (List.Mem.tail _ (List.Mem.head _))) (hml _ (List.Mem.head _)) (hml _ (List.Mem.tail _ (List.Mem.head _))) (hmd _ (List.Mem.head _)) (hmd _ (List.Mem.tail _ (List.Mem.head _))))

theorem ent984 (Rm : Room A (k + 1)) (B : Below A₀ base outer h₀) (F : Fr h₀ L s.heap m) (X₀ : (KF w.params).In h₀) (N : News h₀ L s.heap news) (T : Top p loose mean mg mb h₀) (hA : A.frames = some (env :: outer)) (hf : env.frame = some L) (hke : env.scope.kind = .function)
    (h : ∀ (AA : Around) g L' h₁ m' tk, m' (Str.ofString "self") = some v0 → m' (Str.ofString "msg") = some v1 → (envX (Str.ofString "Address._is_for_me_mixed_29bits") sc984 L' 984 (.ref 983) []).kindOf (Str.ofString "self") = some .local → (envX (Str.ofString "Address._is_for_me_mixed_29bits") sc984 L' 984 (.ref 983) []).kindOf (Str.ofString "msg") = some .local → ((Str.ofString "self") == (Str.ofString "__debug__")) = false → ((Str.ofString "msg") == (Str.ofString "__debug__")) = false → Room AA k → AA.frames = some ((envOf (Str.ofString "Address._is_for_me_mixed_29bits") sc984 L' 984 (.ref 983)) :: env :: outer) → Fr h₀ L g m → Fr g L' h₁ m' → News g L' h₁ news → Below A base (env :: outer) g → (KF w.params).In g → Top p loose mean mg mb g →
      wpAny (model PySem.Challenge.rw_ff0002_01.row.prog w) AA (execs bd984 (envOf (Str.ofString "Address._is_for_me_mixed_29bits") sc984 L' 984 (.ref 983)))
        (fun fl s' => LeaveK h₀ L m g R (match fl with | .ret v => v | _ => .none) s')
        (fun e s' => wpAny (model PySem.Challenge.rw_ff0002_01.row.prog w) AA (leaving (envOf (Str.ofString "Address._is_for_me_mixed_29bits") sc984 L' 984 (.ref 983)) e) (fun _ s'' => R (.error e) s'') (fun e' s'' => R (.error e') s'') s')
        { s with heap := h₁, toks := tk }) : codeAny (model PySem.Challenge.rw_ff0002_01.row.prog w) A (.call (.ref 984) ⟨[v0, v1], []⟩) R s := by
  have ho : (KF w.params).lookup 984 = some (ob984 w.params) := by kernel_rfl
  unfold ob984 at ho

  obtain ⟨hp, gs, dr, tkk, os⟩ := s
  (refine' enterP nSelfM gN Rm B F X₀ N T hA hf hke ho ?k7 ?k9 nSelfM_nd ?kl ?kg nSelfM_d gN_d ?h ?c2 ?c3 ?c4 ?c5; (case k7 => kernel_rfl); (case k9 => exact rfl); (case kl => decide +kernel); (case kg => decide +kernel); (case c5 => decide); (case c2 => exact rfl); (case c3 => exact rfl); (case c4 => exact rfl))
  (case h => exact fun AA g L' h₁ m' tk hm hml hmg hmd hme => h AA g L' h₁ m' tk (hm _ (List.Mem.head _)) (hm _ (List.Mem.tail _ (List.Mem.head _))) (hml _ (List.Mem.head _)) (hml _ (List.Mem.tail _ (List.Mem.head _))) (hmd _ (List.Mem.head _)) (hmd _ (List.Mem.tail _ (List.Mem.head _))))

theorem ent991 (Rm : Room A (k + 1)) (B : Below A₀ base outer h₀) (F : Fr h₀ L s.heap m) (X₀ : (KF w.params).In h₀) (N : News h₀ L s.heap news) (T : Top p loose mean mg mb h₀) (hA : A.frames = some (env :: outer)) (hf : env.frame = some L) (hke : env.scope.kind = .function)
    (h : ∀ (AA : Around) g L' h₁ m' tk, m' (Str.ofString "self") = some v0 → (envX (Str.ofString "Address._requires_extension_byte") sc991 L' 991 (.ref 990) []).kindOf (Str.ofString "self") = some .local → (envX (Str.ofString "Address._requires_extension_byte") sc991 L' 991 (.ref 990) []).kindOf (Str.ofString "AddressingMode") = some .globalImplicit → ((Str.ofString "self") == (Str.ofString "__debug__")) = false → ((Str.ofString "AddressingMode") == (Str.ofString "__debug__")) = false → Room AA k → AA.frames = some ((envOf (Str.ofString "Address._requires_extension_byte") sc991 L' 991 (.ref 990)) :: env :: outer) → Fr h₀ L g m → Fr g L' h₁ m' → News g L' h₁ news → Below A base (env :: outer) g → (KF w.params).In g → Top p loose mean mg mb g →
      wpAny (model PySem.Challenge.rw_ff0002_01.row.prog w) AA (execs bd991 (envOf (Str.ofString "Address._requires_extension_byte") sc991 L' 991 (.ref 990)))
        (fun fl s' => LeaveK h₀ L m g R (match fl with | .ret v => v | _ => .none) s')
        (fun e s' => wpAny (model PySem.Challenge.rw_ff0002_01.row.prog w) AA (leaving (envOf (Str.ofString "Address._requires_extension_byte") sc991 L' 991 (.ref 990)) e) (fun _ s'' => R (.error e) s'') (fun e' s'' => R (.error e') s'') s')
        { s with heap := h₁, toks := tk }) : codeAny (model PySem.Challenge.rw_ff0002_01.row.prog w) A (.call (.ref 991) ⟨[v0], []⟩) R s := by
  have ho : (KF w.params).lookup 991 = some (ob991 w.params) := by kernel_rfl
  unfold ob991 at ho

  obtain ⟨hp, gs, dr, tkk, os⟩ := s
  (refine' enterP nSelf gM Rm B F X₀ N T hA hf hke ho ?k7 ?k9 nSelf_nd ?kl ?kg nSelf_d gM_d ?h ?c2 ?c3 ?c4 ?c5; (case k7 => kernel_rfl); (case k9 => exact rfl); (case kl => decide +kernel); (case kg => decide +kernel); (case c5 => decide); (case c2 => exact rfl); (case c3 => exact rfl); (case c4 => exact rfl))
  (case h => exact fun AA g L' h₁ m' tk hm hml hmg hmd hme => h AA g L' h₁ m' tk (hm _ (List.Mem.head _)) (hml _ (List.Mem.head _)) (hmg _ (List.Mem.head _)) (hmd _ (List.Mem.head _)) (hme _ (List.Mem.head _)))

theorem ent998 (Rm : Room A (k + 1)) (B : Below A₀ base outer h₀) (F : Fr h₀ L s.heap m) (X₀ : (KF w.params).In h₀) (N : News h₀ L s.heap news) (T : Top p loose mean mg mb h₀) (hA : A.frames = some (env :: outer)) (hf : env.frame = some L) (hke : env.scope.kind = .function)
    (h : ∀ (AA : Around) g L' h₁ m' tk, m' (Str.ofString "self") = some v0 → (envX (Str.ofString "Address.requires_rx_extension_byte") sc998 L' 998 (.ref 997) []).kindOf (Str.ofString "self") = some .local → ((Str.ofString "self") == (Str.ofString "__debug__")) = false → Room AA k → AA.frames = some ((envOf (Str.ofString "Address.requires_rx_extension_byte") sc998 L' 998 (.ref 997)) :: env :: outer) → Fr h₀ L g m → Fr g L' h₁ m' → News g L' h₁ news → Below A base (env :: outer) g → (KF w.params).In g → Top p loose mean mg mb g →
      wpAny (model PySem.Challenge.rw_ff0002_01.row.prog w) AA (execs bd998 (envOf (Str.ofString "Address.requires_rx_extension_byte") sc998 L' 998 (.ref 997)))
        (fun fl s' => LeaveK h₀ L m g R (match fl with | .ret v => v | _ => .none) s')
        (fun e s' => wpAny (model PySem.Challenge.rw_ff0002_01.row.prog w) AA (leaving (envOf (Str.ofString "Address.requires_rx_extension_byte") sc998 L' 998 (.ref 997)) e) (fun _ s'' => R (.error e) s'') (fun e' s'' => R (.error e') s'') s')
        { s with heap := h₁, toks := tk }) : codeAny (model PySem.Challenge.rw_ff0002_01.row.prog w) A (.call (.ref 998) ⟨[v0], []⟩) R s := by
  have ho : (KF w.params).lookup 998 = some (ob998 w.params) := by kernel_rfl
  unfold ob998 at ho

  obtain ⟨hp, gs, dr, tkk, os⟩ := s
  (refine' enterP nSelf gN Rm B F X₀ N T hA hf hke ho ?k7 ?k9 nSelf_nd ?kl ?kg nSelf_d gN_d ?h ?c2 ?c3 ?c4 ?c5; (case k7 => kernel_rfl); (case k9 => exact rfl); (case kl => decide +kernel); (case kg => decide +kernel); (case c5 => decide); (case c2 => exact rfl); (case c3 => exact rfl); (case c4 => exact rfl))
  (case h => exact fun AA g L' h₁ m' tk hm hml hmg hmd hme => h AA g L' h₁ m' tk (hm _ (List.Mem.head _)) (hml _ (List.Mem.head _)) (hmd _ (List.Mem.head _)))

theorem ent1005 (Rm : Room A (k + 1)) (B : Below A₀ base outer h₀) (F : Fr h₀ L s.heap m) (X₀ : (KF w.params).In h₀) (N : News h₀ L s.heap news) (T : Top p loose mean mg mb h₀) (hA : A.frames = some (env :: outer)) (hf : env.frame = some L) (hke : env.scope.kind = .function)
    (h : ∀ (AA : Around) g L' h₁ m' tk, m' (Str.ofString "self") = some v0 → (envX (Str.ofString "Address.requires_tx_extension_byte") sc1005 L' 1005 (.ref 1004) []).kindOf (Str.ofString "self") = some .local → ((Str.ofString "self") == (Str.ofString "__debug__")) = false → Room AA k → AA.frames = some ((envOf (Str.ofString "Address.requires_tx_extension_byte") sc1005 L' 1005 (.ref 1004)) :: env :: outer) → Fr h₀ L g m → Fr g L' h₁ m' → News g L' h₁ news → Below A base (env :: outer) g → (KF w.params).In g → Top p loose mean mg mb g →
      wpAny (model PySem.Challenge.rw_ff0002_01.row.prog w) AA (execs bd1005 (envOf (Str.ofString "Address.requires_tx_extension_byte") sc1005 L' 1005 (.ref 1004)))
        (fun fl s' => LeaveK h₀ L m g R (match fl with | .ret v => v | _ => .none) s')
        (fun e s' => wpAny (model PySem.Challenge.rw_ff0002_01.row.prog w) AA (leaving (envOf (Str.ofString "Address.requires_tx_extension_byte") sc1005 L' 1005 (.ref 1004)) e) (fun _ s'' => R (.error e) s'') (fun e' s'' => R (.error e') s'') s')
        { s with heap := h₁, toks := tk }) : codeAny (model PySem.Challenge.rw_ff0002_01.row.prog w) A (.call (.ref 1005) ⟨[v0], []⟩) R s := by
  have ho : (KF w.params).lookup 1005 = some (ob1005 w.params) := by kernel_rfl
  unfold ob1005 at ho

  obtain ⟨hp, gs, dr, tkk, os⟩ := s
  (refine' enterP nSelf gN Rm B F X₀ N T hA hf hke ho ?k7 ?k9 nSelf_nd ?kl ?kg nSelf_d gN_d ?h ?c2 ?c3 ?c4 ?c5; (case k7 => kernel_rfl); (case k9 => exact rfl); (case kl => decide +kernel); (case kg => decide +kernel); (case c5 => decide); (case c2 => exact rfl); (case c3 => exact rfl); (case c4 => exact rfl))
  (case h => exact fun AA g L' h₁ m' tk hm hml hmg hmd hme => h AA g L' h₁ m' tk (hm _ (List.Mem.head _)) (hml _ (List.Mem.head _)) (hmd _ (List.Mem.head _)))

theorem ent1012 (Rm : Room A (k + 1)) (B : Below A₀ base outer h₀) (F : Fr h₀ L s.heap m) (X₀ : (KF w.params).In h₀) (N : News h₀ L s.heap news) (T : Top p loose mean mg mb h₀) (hA : A.frames = some (env :: outer)) (hf : env.frame = some L) (hke : env.scope.kind = .function)
    (h : ∀ (AA : Around) g L' h₁ m' tk, m' (Str.ofString "self") = some v0 → (envX (Str.ofString "Address.get_tx_extension_byte") sc1012 L' 1012 (.ref 1011) []).kindOf (Str.ofString "self") = some .local → (envX (Str.ofString "Address.get_tx_extension_byte") sc1012 L' 1012 (.ref 1011) []).kindOf (Str.ofString "AddressingMode") = some .globalImplicit → ((Str.ofString "self") == (Str.ofString "__debug__")) = false → ((Str.ofString "AddressingMode") == (Str.ofString "__debug__")) = false → Room AA k → AA.frames = some ((envOf (Str.ofString "Address.get_tx_extension_byte") sc1012 L' 1012 (.ref 1011)) :: env :: outer) → Fr h₀ L g m → Fr g L' h₁ m' → News g L' h₁ news → Below A base (env :: outer) g → (KF w.params).In g → Top p loose mean mg mb g →
      wpAny (model PySem.Challenge.rw_ff0002_01.row.prog w) AA (execs bd1012 (envOf (Str.ofString "Address.get_tx_extension_byte") sc1012 L' 1012 (.ref 1011)))
        (fun fl s' => LeaveK h₀ L m g R (match fl with | .ret v => v | _ => .none) s')
        (fun e s' => wpAny (model PySem.Challenge.rw_ff0002_01.row.prog w) AA (leaving (envOf (Str.ofString "Address.get_tx_extension_byte") sc1012 L' 1012 (.ref 1011)) e) (fun _ s'' => R (.error e) s'') (fun e' s'' => R (.error e') s'') s')
        { s with heap := h₁, toks := tk }) : codeAny (model PySem.Challenge.rw_ff0002_01.row.prog w) A (.call (.ref 1012) ⟨[v0], []⟩) R s := by
  have ho : (KF w.params).lookup 1012 = some (ob1012 w.params) := by kernel_rfl
  unfold ob1012 at ho

  obtain ⟨hp, gs, dr, tkk, os⟩ := s
  (refine' enterP nSelf gM Rm B F X₀ N T hA hf hke ho ?k7 ?k9 nSelf_nd ?kl ?kg nSelf_d gM_d ?h ?c2 ?c3 ?c4 ?c5; (case k7 => kernel_rfl); (case k9 => exact rfl); (case kl => decide +kernel); (case kg => decide +kernel); (case c5 => decide); (case c2 => exact rfl); (case c3 => exact rfl); (case c4 => exact rfl))
  (case h => exact fun AA g L' h₁ m' tk hm hml hmg hmd hme => h AA g L' h₁ m' tk (hm _ (List.Mem.head _)) (hml _ (List.Mem.head _)) (hmg _ (List.Mem.head _)) (hmd _ (List.Mem.head _)) (hme _ (List.Mem.head _)))

theorem ent1019 (Rm : Room A (k + 1)) (B : Below A₀ base outer h₀) (F : Fr h₀ L s.heap m) (X₀ : (KF w.params).In h₀) (N : News h₀ L s.heap news) (T : Top p loose mean mg mb h₀) (hA : A.frames = some (env :: outer)) (hf : env.frame = some L) (hke : env.scope.kind = .function)
    (h : ∀ (AA : Around) g L' h₁ m' tk, m' (Str.ofString "self") = some v0 → (envX (Str.ofString "Address.get_rx_extension_byte") sc1019 L' 1019 (.ref 1018) []).kindOf (Str.ofString "self") = some .local → (envX (Str.ofString "Address.get_rx_extension_byte") sc1019 L' 1019 (.ref 1018) []).kindOf (Str.ofString "AddressingMode") = some .globalImplicit → ((Str.ofString "self") == (Str.ofString "__debug__")) = false → ((Str.ofString "AddressingMode") == (Str.ofString "__debug__")) = false → Room AA k → AA.frames = some ((envOf (Str.ofString "Address.get_rx_extension_byte") sc1019 L' 1019 (.ref 1018)) :: env :: outer) → Fr h₀ L g m → Fr g L' h₁ m' → News g L' h₁ news → Below A base (env :: outer) g → (KF w.params).In g → Top p loose mean mg mb g →
      wpAny (model PySem.Challenge.rw_ff0002_01.row.prog w) AA (execs bd1019 (envOf (Str.ofString "Address.get_rx_extension_byte") sc1019 L' 1019 (.ref 1018)))
        (fun fl s' => LeaveK h₀ L m g R (match fl with | .ret v => v | _ => .none) s')
        (fun e s' => wpAny (model PySem.Challenge.rw_ff0002_01.row.prog w) AA (leaving (envOf (Str.ofString "Address.get_rx_extension_byte") sc1019 L' 1019 (.ref 1018)) e) (fun _ s'' => R (.error e) s'') (fun e' s'' => R (.error e') s'') s')
        { s with heap := h₁, toks := tk }) : codeAny (model PySem.Challenge.rw_ff0002_01.row.prog w) A (.call (.ref 1019) ⟨[v0], []⟩) R s := by
  have ho : (KF w.params).lookup 1019 = some (ob1019 w.params) := by kernel_rfl
  unfold ob1019 at ho

  obtain ⟨hp, gs, dr, tkk, os⟩ := s
  (refine' enterP nSelf gM Rm B F X₀ N T hA hf hke ho ?k7 ?k9 nSelf_nd ?kl ?kg nSelf_d gM_d ?h ?c2 ?c3 ?c4 ?c5; (case k7 => kernel_rfl); (case k9 => exact rfl); (case kl => decide +kernel); (case kg => decide +kernel); (case c5 => decide); (case c2 => exact rfl); (case c3 => exact rfl); (case c4 => exact rfl))
  (case h => exact fun AA g L' h₁ m' tk hm hml hmg hmd hme => h AA g L' h₁ m' tk (hm _ (List.Mem.head _)) (hml _ (List.Mem.head _)) (hmg _ (List.Mem.head _)) (hmd _ (List.Mem.head _)) (hme _ (List.Mem.head _)))

theorem ent1026 (Rm : Room A (k + 1)) (B : Below A₀ base outer h₀) (F : Fr h₀ L s.heap m) (X₀ : (KF w.params).In h₀) (N : News h₀ L s.heap news) (T : Top p loose mean mg mb h₀) (hA : A.frames = some (env :: outer)) (hf : env.frame = some L) (hke : env.scope.kind = .function)
    (h : ∀ (AA : Around) g L' h₁ m' tk, m' (Str.ofString "self") = some v0 → (envX (Str.ofString "Address.is_tx_29bits") sc1026 L' 1026 (.ref 1025) []).kindOf (Str.ofString "self") = some .local → ((Str.ofString "self") == (Str.ofString "__debug__")) = false → Room AA k → AA.frames = some ((envOf (Str.ofString "Address.is_tx_29bits") sc1026 L' 1026 (.ref 1025)) :: env :: outer) → Fr h₀ L g m → Fr g L' h₁ m' → News g L' h₁ news → Below A base (env :: outer) g → (KF w.params).In g → Top p loose mean mg mb g →
      wpAny (model PySem.Challenge.rw_ff0002_01.row.prog w) AA (execs bd1026 (envOf (Str.ofString "Address.is_tx_29bits") sc1026 L' 1026 (.ref 1025)))
        (fun fl s' => LeaveK h₀ L m g R (match fl with | .ret v => v | _ => .none) s')
        (fun e s' => wpAny (model PySem.Challenge.rw_ff0002_01.row.prog w) AA (leaving (envOf (Str.ofString "Address.is_tx_29bits") sc1026 L' 1026 (.ref 1025)) e) (fun _ s'' => R (.error e) s'') (fun e' s'' => R (.error e') s'') s')
        { s with heap := h₁, toks := tk }) : codeAny (model PySem.Challenge.rw_ff0002_01.row.prog w) A (.call (.ref 1026) ⟨[v0], []⟩) R s := by
  have ho : (KF w.params).lookup 1026 = some (ob1026 w.params) := by kernel_rfl
  unfold ob1026 at ho

  obtain ⟨hp, gs, dr, tkk, os⟩ := s
  (refine' enterP nSelf gN Rm B F X₀ N T hA hf hke ho ?k7 ?k9 nSelf_nd ?kl ?kg nSelf_d gN_d ?h ?c2 ?c3 ?c4 ?c5; (case k7 => kernel_rfl); (case k9 => exact rfl); (case kl => decide +kernel); (case kg => decide +kernel); (case c5 => decide); (case c2 => exact rfl); (case c3 => exact rfl); (case c4 => exact rfl))
  (case h => exact fun AA g L' h₁ m' tk hm hml hmg hmd hme => h AA g L' h₁ m' tk (hm _ (List.Mem.head _)) (hml _ (List.Mem.head _)) (hmd _ (List.Mem.head _)))

theorem ent1033 (Rm : Room A (k + 1)) (B : Below A₀ base outer h₀) (F : Fr h₀ L s.heap m) (X₀ : (KF w.params).In h₀) (N : News h₀ L s.heap news) (T : Top p loose mean mg mb h₀) (hA : A.frames = some (env :: outer)) (hf : env.frame = some L) (hke : env.scope.kind = .function)
    (h : ∀ (AA : Around) g L' h₁ m' tk, m' (Str.ofString "self") = some v0 → (envX (Str.ofString "Address.is_rx_29bits") sc1033 L' 1033 (.ref 1032) []).kindOf (Str.ofString "self") = some .local → ((Str.ofString "self") == (Str.ofString "__debug__")) = false → Room AA k → AA.frames = some ((envOf (Str.ofString "Address.is_rx_29bits") sc1033 L' 1033 (.ref 1032)) :: env :: outer) → Fr h₀ L g m → Fr g L' h₁ m' → News g L' h₁ news → Below A base (env :: outer) g → (KF w.params).In g → Top p loose mean mg mb g →
      wpAny (model PySem.Challenge.rw_ff0002_01.row.prog w) AA (execs bd1033 (envOf (Str.ofString "Address.is_rx_29bits") sc1033 L' 1033 (.ref 1032)))
        (fun fl s' => LeaveK h₀ L m g R (match fl with | .ret v => v | _ => .none) s')
        (fun e s' => wpAny (model PySem.Challenge.rw_ff0002_01.row.prog w) AA (leaving (envOf (Str.ofString "Address.is_rx_29bits") sc1033 L' 1033 (.ref 1032)) e) (fun _ s'' => R (.error e) s'') (fun e' s'' => R (.error e') s'') s')
        { s with heap := h₁, toks := tk }) : codeAny (model PySem.Challenge.rw_ff0002_01.row.prog w) A (.call (.ref 1033) ⟨[v0], []⟩) R s := by
  have ho : (KF w.params).lookup 1033 = some (ob1033 w.params) := by kernel_rfl
  unfold ob1033 at ho

  obtain ⟨hp, gs, dr, tkk, os⟩ := s
  (refine' enterP nSelf gN Rm B F X₀ N T hA hf hke ho ?k7 ?k9 nSelf_nd ?kl ?kg nSelf_d gN_d ?h ?c2 ?c3 ?c4 ?c5; (case k7 => kernel_rfl); (case k9 => exact rfl); (case kl => decide +kernel); (case kg => decide +kernel); (case c5 => decide); (case c2 => exact rfl); (case c3 => exact rfl); (case c4 => exact rfl))
  (case h => exact fun AA g L' h₁ m' tk hm hml hmg hmd hme => h AA g L' h₁ m' tk (hm _ (List.Mem.head _)) (hml _ (List.Mem.head _)) (hmd _ (List.Mem.head _)))

theorem ent1178 (Rm : Room A (k + 1)) (B : Below A₀ base outer h₀) (F : Fr h₀ L s.heap m) (X₀ : (KF w.params).In h₀) (N : News h₀ L s.heap news) (T : Top p loose mean mg mb h₀) (hA : A.frames = some (env :: outer)) (hf : env.frame = some L) (hke : env.scope.kind = .function)
    (h : ∀ (AA : Around) g L' h₁ m' tk, m' (Str.ofString "told") = some v0 → m' (Str.ofString "at") = some v1 → m' (Str.ofString "below") = some v2 → (envX (Str.ofString "_law_drawn") sc1178 L' 1178 (.ref 1177) []).kindOf (Str.ofString "told") = some .local → (envX (Str.ofString "_law_drawn") sc1178 L' 1178 (.ref 1177) []).kindOf (Str.ofString "at") = some .local → (envX (Str.ofString "_law_drawn") sc1178 L' 1178 (.ref 1177) []).kindOf (Str.ofString "below") = some .local → (envX (Str.ofString "_law_drawn") sc1178 L' 1178 (.ref 1177) []).kindOf (Str.ofString "abs") = some .globalImplicit → (envX (Str.ofString "_law_drawn") sc1178 L' 1178 (.ref 1177) []).kindOf (Str.ofString "len") = some .globalImplicit → ((Str.ofString "told") == (Str.ofString "__debug__")) = false → ((Str.ofString "at") == (Str.ofString "__debug__")) = false → ((Str.ofString "below") == (Str.ofString "__debug__")) = false → ((Str.ofString "abs") == (Str.ofString "__debug__")) = false → ((Str.ofString "len") == (Str.ofString "__debug__")) = false → Room AA k → AA.frames = some ((envOf (Str.ofString "_law_drawn") sc1178 L' 1178 (.ref 1177)) :: env :: outer) → Fr h₀ L g m → Fr g L' h₁ m' → News g L' h₁ news → Below A base (env :: outer) g → (KF w.params).In g → Top p loose mean mg mb g →
      wpAny (model PySem.Challenge.rw_ff0002_01.row.prog w) AA (execs bd1178 (envOf (Str.ofString "_law_drawn") sc1178 L' 1178 (.ref 1177)))
        (fun fl s' => LeaveK h₀ L m g R (match fl with | .ret v => v | _ => .none) s')
        (fun e s' => wpAny (model PySem.Challenge.rw_ff0002_01.row.prog w) AA (leaving (envOf (Str.ofString "_law_drawn") sc1178 L' 1178 (.ref 1177)) e) (fun _ s'' => R (.error e) s'') (fun e' s'' => R (.error e') s'') s')
        { s with heap := h₁, toks := tk }) : codeAny (model PySem.Challenge.rw_ff0002_01.row.prog w) A (.call (.ref 1178) ⟨[v0, v1, v2], []⟩) R s := by
  have ho : (KF w.params).lookup 1178 = some (ob1178 w.params) := by kernel_rfl
  unfold ob1178 at ho

  obtain ⟨hp, gs, dr, tkk, os⟩ := s
  (refine' enterP nDraw gDraw Rm B F X₀ N T hA hf hke ho ?k7 ?k9 nDraw_nd ?kl ?kg nDraw_d gDraw_d ?h ?c2 ?c3 ?c4 ?c5; (case k7 => kernel_rfl); (case k9 => exact rfl); (case kl => decide +kernel); (case kg => decide +kernel); (case c5 => decide); (case c2 => exact rfl); (case c3 => exact rfl); (case c4 => exact rfl))
  (case h => exact fun AA g L' h₁ m' tk hm hml hmg hmd hme => h AA g L' h₁ m' tk (hm _ (List.Mem.head _)) (hm _ (List.Mem.tail _ (List.Mem.head _))) (hm _ (List.Mem.tail _ (List.Mem.tail _ (List.Mem.head _)))) (hml _ (List.Mem.head _)) (hml _ (List.Mem.tail _ (List.Mem.head _))) (hml _ (List.Mem.tail _ (List.Mem.tail _ (List.Mem.head _)))) (hmg _ (List.Mem.head _)) (hmg _ (List.Mem.tail _ (List.Mem.head _))) (hmd _ (List.Mem.head _)) (hmd _ (List.Mem.tail _ (List.Mem.head _))) (hmd _ (List.Mem.tail _ (List.Mem.tail _ (List.Mem.head _)))) (hme _ (List.Mem.head _)) (hme _ (List.Mem.tail _ (List.Mem.head _))))

theorem ent1185 (Rm : Room A (k + 1)) (B : Below A₀ base outer h₀) (F : Fr h₀ L s.heap m) (X₀ : (KF w.params).In h₀) (N : News h₀ L s.heap news) (T : Top p loose mean mg mb h₀) (hA : A.frames = some (env :: outer)) (hf : env.frame = some L) (hke : env.scope.kind = .function)
    (h : ∀ (AA : Around) g L' h₁ m' tk, m' (Str.ofString "kind") = some v0 → m' (Str.ofString "told") = some v1 → m' (Str.ofString "at") = some v2 → (envX (Str.ofString "_law_pair") sc1185 L' 1185 (.ref 1184) []).kindOf (Str.ofString "kind") = some .local → (envX (Str.ofString "_law_pair") sc1185 L' 1185 (.ref 1184) []).kindOf (Str.ofString "told") = some .local → (envX (Str.ofString "_law_pair") sc1185 L' 1185 (.ref 1184) []).kindOf (Str.ofString "at") = some .local → (envX (Str.ofString "_law_pair") sc1185 L' 1185 (.ref 1184) []).kindOf (Str.ofString "Address") = some .globalImplicit → (envX (Str.ofString "_law_pair") sc1185 L' 1185 (.ref 1184) []).kindOf (Str.ofString "AddressingMode") = some .globalImplicit → (envX (Str.ofString "_law_pair") sc1185 L' 1185 (.ref 1184) []).kindOf (Str.ofString "_law_drawn") = some .globalImplicit → ((Str.ofString "kind") == (Str.ofString "__debug__")) = false → ((Str.ofString "told") == (Str.ofString "__debug__")) = false → ((Str.ofString "at") == (Str.ofString "__debug__")) = false → ((Str.ofString "Address") == (Str.ofString "__debug__")) = false → ((Str.ofString "AddressingMode") == (Str.ofString "__debug__")) = false → ((Str.ofString "_law_drawn") == (Str.ofString "__debug__")) = false → Room AA k → AA.frames = some ((envOf (Str.ofString "_law_pair") sc1185 L' 1185 (.ref 1184)) :: env :: outer) → Fr h₀ L g m → Fr g L' h₁ m' → News g L' h₁ news → Below A base (env :: outer) g → (KF w.params).In g → Top p loose mean mg mb g →
      wpAny (model PySem.Challenge.rw_ff0002_01.row.prog w) AA (execs bd1185 (envOf (Str.ofString "_law_pair") sc1185 L' 1185 (.ref 1184)))
        (fun fl s' => LeaveK h₀ L m g R (match fl with | .ret v => v | _ => .none) s')
        (fun e s' => wpAny (model PySem.Challenge.rw_ff0002_01.row.prog w) AA (leaving (envOf (Str.ofString "_law_pair") sc1185 L' 1185 (.ref 1184)) e) (fun _ s'' => R (.error e) s'') (fun e' s'' => R (.error e') s'') s')
        { s with heap := h₁, toks := tk }) : codeAny (model PySem.Challenge.rw_ff0002_01.row.prog w) A (.call (.ref 1185) ⟨[v0, v1, v2], []⟩) R s := by
  have ho : (KF w.params).lookup 1185 = some (ob1185 w.params) := by kernel_rfl
  unfold ob1185 at ho

  obtain ⟨hp, gs, dr, tkk, os⟩ := s
  (refine' enterP nPair gPair Rm B F X₀ N T hA hf hke ho ?k7 ?k9 nPair_nd ?kl ?kg nPair_d gPair_d ?h ?c2 ?c3 ?c4 ?c5; (case k7 => kernel_rfl); (case k9 => exact rfl); (case kl => decide +kernel); (case kg => decide +kernel); (case c5 => decide); (case c2 => exact rfl); (case c3 => exact rfl); (case c4 => exact rfl))
  (case h => exact fun AA g L' h₁ m' tk hm hml hmg hmd hme => h AA g L' h₁ m' tk (hm _ (List.Mem.head _)) (hm _ (List.Mem.tail _ (List.Mem.head _))) (hm _ (List.Mem.tail _ (List.Mem.tail _ (List.Mem.head _)))) (hml _ (List.Mem.head _)) (hml _ (List.Mem.tail _ (List.Mem.head _))) (hml _ (List.Mem.tail _ (List.Mem.tail _ (List.Mem.head _)))) (hmg _ (List.Mem.head _)) (hmg _ (List.Mem.tail _ (List.Mem.head _))) (hmg _ (List.Mem.tail _ (List.Mem.tail _ (List.Mem.head _)))) (hmd _ (List.Mem.head _)) (hmd _ (List.Mem.tail _ (List.Mem.head _))) (hmd _ (List.Mem.tail _ (List.Mem.tail _ (List.Mem.head _)))) (hme _ (List.Mem.head _)) (hme _ (List.Mem.tail _ (List.Mem.head _))) (hme _ (List.Mem.tail _ (List.Mem.tail _ (List.Mem.head _)))))

theorem ent1052 (Rm : Room A (k + 1)) (B : Below A₀ base outer h₀) (F : Fr h₀ L s.heap m) (X₀ : (KF w.params).In h₀) (N : News h₀ L s.heap news) (T : Top p loose mean mg mb h₀) (hA : A.frames = some (env :: outer)) (hf : env.frame = some L) (hke : env.scope.kind = .function)
    (h : ∀ (AA : Around) g L' h₁ m' tk, m' (Str.ofString "self") = some v0 → m' (Str.ofString "tx_addr") = some v1 → m' (Str.ofString "rx_addr") = some v2 → (envX (Str.ofString "AsymmetricAddress.__init__") sc1052 L' 1052 (.ref 1051) []).kindOf (Str.ofString "self") = some .local → (envX (Str.ofString "AsymmetricAddress.__init__") sc1052 L' 1052 (.ref 1051) []).kindOf (Str.ofString "tx_addr") = some .local → (envX (Str.ofString "AsymmetricAddress.__init__") sc1052 L' 1052 (.ref 1051) []).kindOf (Str.ofString "rx_addr") = some .local → (envX (Str.ofString "AsymmetricAddress.__init__") sc1052 L' 1052 (.ref 1051) []).kindOf (Str.ofString "Address") = some .globalImplicit → (envX (Str.ofString "AsymmetricAddress.__init__") sc1052 L' 1052 (.ref 1051) []).kindOf (Str.ofString "isinstance") = some .globalImplicit → ((Str.ofString "self") == (Str.ofString "__debug__")) = false → ((Str.ofString "tx_addr") == (Str.ofString "__debug__")) = false → ((Str.ofString "rx_addr") == (Str.ofString "__debug__")) = false → ((Str.ofString "Address") == (Str.ofString "__debug__")) = false → ((Str.ofString "isinstance") == (Str.ofString "__debug__")) = false → Room AA k → AA.frames = some ((envOf (Str.ofString "AsymmetricAddress.__init__") sc1052 L' 1052 (.ref 1051)) :: env :: outer) → Fr h₀ L g m → Fr g L' h₁ m' → News g L' h₁ news → Below A base (env :: outer) g → (KF w.params).In g → Top p loose mean mg mb g →
      wpAny (model PySem.Challenge.rw_ff0002_01.row.prog w) AA (execs bd1052 (envOf (Str.ofString "AsymmetricAddress.__init__") sc1052 L' 1052 (.ref 1051)))
        (fun fl s' => LeaveK h₀ L m g R (match fl with | .ret v => v | _ => .none) s')
        (fun e s' => wpAny (model PySem.Challenge.rw_ff0002_01.row.prog w) AA (leaving (envOf (Str.ofString "AsymmetricAddress.__init__") sc1052 L' 1052 (.ref 1051)) e) (fun _ s'' => R (.error e) s'') (fun e' s'' => R (.error e') s'') s')
        { s with heap := h₁, toks := tk }) : codeAny (model PySem.Challenge.rw_ff0002_01.row.prog w) A (.call (.ref 1052) ⟨[v0, v1, v2], []⟩) R s := by
  have ho : (KF w.params).lookup 1052 = some (ob1052 w.params) := by kernel_rfl
  unfold ob1052 at ho

  obtain ⟨hp, gs, dr, tkk, os⟩ := s
  (refine' enterP nAsym gAsym Rm B F X₀ N T hA hf hke ho ?k7 ?k9 nAsym_nd ?kl ?kg nAsym_d gAsym_d ?h ?c2 ?c3 ?c4 ?c5; (case k7 => kernel_rfl); (case k9 => exact rfl); (case kl => decide +kernel); (case kg => decide +kernel); (case c5 => decide); (case c2 => exact rfl); (case c3 => exact rfl); (case c4 => exact rfl))
  (case h => exact fun AA g L' h₁ m' tk hm hml hmg hmd hme => h AA g L' h₁ m' tk (hm _ (List.Mem.head _)) (hm _ (List.Mem.tail _ (List.Mem.head _))) (hm _ (List.Mem.tail _ (List.Mem.tail _ (List.Mem.head _)))) (hml _ (List.Mem.head _)) (hml _ (List.Mem.tail _ (List.Mem.head _))) (hml _ (List.Mem.tail _ (List.Mem.tail _ (List.Mem.head _)))) (hmg _ (List.Mem.head _)) (hmg _ (List.Mem.tail _ (List.Mem.head _))) (hmd _ (List.Mem.head _)) (hmd _ (List.Mem.tail _ (List.Mem.head _))) (hmd _ (List.Mem.tail _ (List.Mem.tail _ (List.Mem.head _)))) (hme _ (List.Mem.head _)) (hme _ (List.Mem.tail _ (List.Mem.head _))))

theorem ent1059 (Rm : Room A (k + 1)) (B : Below A₀ base outer h₀) (F : Fr h₀ L s.heap m) (X₀ : (KF w.params).In h₀) (N : News h₀ L s.heap news) (T : Top p loose mean mg mb h₀) (hA : A.frames = some (env :: outer)) (hf : env.frame = some L) (hke : env.scope.kind = .function)
    (h : ∀ (AA : Around) g L' h₁ m' tk, m' (Str.ofString "self") = some v0 → (envX (Str.ofString "AsymmetricAddress.get_tx_extension_byte") sc1059 L' 1059 (.ref 1058) []).kindOf (Str.ofString "self") = some .local → ((Str.ofString "self") == (Str.ofString "__debug__")) = false → Room AA k → AA.frames = some ((envOf (Str.ofString "AsymmetricAddress.get_tx_extension_byte") sc1059 L' 1059 (.ref 1058)) :: env :: outer) → Fr h₀ L g m → Fr g L' h₁ m' → News g L' h₁ news → Below A base (env :: outer) g → (KF w.params).In g → Top p loose mean mg mb g →
      wpAny (model PySem.Challenge.rw_ff0002_01.row.prog w) AA (execs bd1059 (envOf (Str.ofString "AsymmetricAddress.get_tx_extension_byte") sc1059 L' 1059 (.ref 1058)))
        (fun fl s' => LeaveK h₀ L m g R (match fl with | .ret v => v | _ => .none) s')
        (fun e s' => wpAny (model PySem.Challenge.rw_ff0002_01.row.prog w) AA (leaving (envOf (Str.ofString "AsymmetricAddress.get_tx_extension_byte") sc1059 L' 1059 (.ref 1058)) e) (fun _ s'' => R (.error e) s'') (fun e' s'' => R (.error e') s'') s')
        { s with heap := h₁, toks := tk }) : codeAny (model PySem.Challenge.rw_ff0002_01.row.prog w) A (.call (.ref 1059) ⟨[v0], []⟩) R s := by
  have ho : (KF w.params).lookup 1059 = some (ob1059 w.params) := by kernel_rfl
  unfold ob1059 at ho

  obtain ⟨hp, gs, dr, tkk, os⟩ := s
  (refine' enterP nSelf gN Rm B F X₀ N T hA hf hke ho ?k7 ?k9 nSelf_nd ?kl ?kg nSelf_d gN_d ?h ?c2 ?c3 ?c4 ?c5; (case k7 => kernel_rfl); (case k9 => exact rfl); (case kl => decide +kernel); (case kg => decide +kernel); (case c5 => decide); (case c2 => exact rfl); (case c3 => exact rfl); (case c4 => exact rfl))
  (case h => exact fun AA g L' h₁ m' tk hm hml hmg hmd hme => h AA g L' h₁ m' tk (hm _ (List.Mem.head _)) (hml _ (List.Mem.head _)) (hmd _ (List.Mem.head _)))

theorem ent1066 (Rm : Room A (k + 1)) (B : Below A₀ base outer h₀) (F : Fr h₀ L s.heap m) (X₀ : (KF w.params).In h₀) (N : News h₀ L s.heap news) (T : Top p loose mean mg mb h₀) (hA : A.frames = some (env :: outer)) (hf : env.frame = some L) (hke : env.scope.kind = .function)
    (h : ∀ (AA : Around) g L' h₁ m' tk, m' (Str.ofString "self") = some v0 → (envX (Str.ofString "AsymmetricAddress.get_rx_extension_byte") sc1066 L' 1066 (.ref 1065) []).kindOf (Str.ofString "self") = some .local → ((Str.ofString "self") == (Str.ofString "__debug__")) = false → Room AA k → AA.frames = some ((envOf (Str.ofString "AsymmetricAddress.get_rx_extension_byte") sc1066 L' 1066 (.ref 1065)) :: env :: outer) → Fr h₀ L g m → Fr g L' h₁ m' → News g L' h₁ news → Below A base (env :: outer) g → (KF w.params).In g → Top p loose mean mg mb g →
      wpAny (model PySem.Challenge.rw_ff0002_01.row.prog w) AA (execs bd1066 (envOf (Str.ofString "AsymmetricAddress.get_rx_extension_byte") sc1066 L' 1066 (.ref 1065)))
        (fun fl s' => LeaveK h₀ L m g R (match fl with | .ret v => v | _ => .none) s')
        (fun e s' => wpAny (model PySem.Challenge.rw_ff0002_01.row.prog w) AA (leaving (envOf (Str.ofString "AsymmetricAddress.get_rx_extension_byte") sc1066 L' 1066 (.ref 1065)) e) (fun _ s'' => R (.error e) s'') (fun e' s'' => R (.error e') s'') s')
        { s with heap := h₁, toks := tk }) : codeAny (model PySem.Challenge.rw_ff0002_01.row.prog w) A (.call (.ref 1066) ⟨[v0], []⟩) R s := by
  have ho : (KF w.params).lookup 1066 = some (ob1066 w.params) := by kernel_rfl
  unfold ob1066 at ho

  obtain ⟨hp, gs, dr, tkk, os⟩ := s
  (refine' enterP nSelf gN Rm B F X₀ N T hA hf hke ho ?k7 ?k9 nSelf_nd ?kl ?kg nSelf_d gN_d ?h ?c2 ?c3 ?c4 ?c5; (case k7 => kernel_rfl); (case k9 => exact rfl); (case kl => decide +kernel); (case kg => decide +kernel); (case c5 => decide); (case c2 => exact rfl); (case c3 => exact rfl); (case c4 => exact rfl))
  (case h => exact fun AA g L' h₁ m' tk hm hml hmg hmd hme => h AA g L' h₁ m' tk (hm _ (List.Mem.head _)) (hml _ (List.Mem.head _)) (hmd _ (List.Mem.head _)))

theorem ent1073 (Rm : Room A (k + 1)) (B : Below A₀ base outer h₀) (F : Fr h₀ L s.heap m) (X₀ : (KF w.params).In h₀) (N : News h₀ L s.heap news) (T : Top p loose mean mg mb h₀) (hA : A.frames = some (env :: outer)) (hf : env.frame = some L) (hke : env.scope.kind = .function)
    (h : ∀ (AA : Around) g L' h₁ m' tk, m' (Str.ofString "self") = some v0 → m' (Str.ofString "msg") = some v1 → (envX (Str.ofString "AsymmetricAddress.is_for_me") sc1073 L' 1073 (.ref 1072) []).kindOf (Str.ofString "self") = some .local → (envX (Str.ofString "AsymmetricAddress.is_for_me") sc1073 L' 1073 (.ref 1072) []).kindOf (Str.ofString "msg") = some .local → ((Str.ofString "self") == (Str.ofString "__debug__")) = false → ((Str.ofString "msg") == (Str.ofString "__debug__")) = false → Room AA k → AA.frames = some ((envOf (Str.ofString "AsymmetricAddress.is_for_me") sc1073 L' 1073 (.ref 1072)) :: env :: outer) → Fr h₀ L g m → Fr g L' h₁ m' → News g L' h₁ news → Below A base (env :: outer) g → (KF w.params).In g → Top p loose mean mg mb g →
      wpAny (model PySem.Challenge.rw_ff0002_01.row.prog w) AA (execs bd1073 (envOf (Str.ofString "AsymmetricAddress.is_for_me") sc1073 L' 1073 (.ref 1072)))
        (fun fl s' => LeaveK h₀ L m g R (match fl with | .ret v => v | _ => .none) s')
        (fun e s' => wpAny (model PySem.Challenge.rw_ff0002_01.row.prog w) AA (leaving (envOf (Str.ofString "AsymmetricAddress.is_for_me") sc1073 L' 1073 (.ref 1072)) e) (fun _ s'' => R (.error e) s'') (fun e' s'' => R (.error e') s'') s')
        { s with heap := h₁, toks := tk }) : codeAny (model PySem.Challenge.rw_ff0002_01.row.prog w) A (.call (.ref 1073) ⟨[v0, v1], []⟩) R s := by
  have ho : (KF w.params).lookup 1073 = some (ob1073 w.params) := by kernel_rfl
  unfold ob1073 at ho

  obtain ⟨hp, gs, dr, tkk, os⟩ := s
  (refine' enterP nSelfM gN Rm B F X₀ N T hA hf hke ho ?k7 ?k9 nSelfM_nd ?kl ?kg nSelfM_d gN_d ?h ?c2 ?c3 ?c4 ?c5; (case k7 => kernel_rfl); (case k9 => exact rfl); (case kl => decide +kernel); (case kg => decide +kernel); (case c5 => decide); (case c2 => exact rfl); (case c3 => exact rfl); (case c4 => exact rfl))
  (case h => exact fun AA g L' h₁ m' tk hm hml hmg hmd hme => h AA g L' h₁ m' tk (hm _ (List.Mem.head _)) (hm _ (List.Mem.tail _ (List.Mem.head _))) (hml _ (List.Mem.head _)) (hml _ (List.Mem.tail _ (List.Mem.head _))) (hmd _ (List.Mem.head _)) (hmd _ (List.Mem.tail _ (List.Mem.head _))))

theorem ent1081 (Rm : Room A (k + 1)) (B : Below A₀ base outer h₀) (F : Fr h₀ L s.heap m) (X₀ : (KF w.params).In h₀) (N : News h₀ L s.heap news) (T : Top p loose mean mg mb h₀) (hA : A.frames = some (env :: outer)) (hf : env.frame = some L) (hke : env.scope.kind = .function)
    (h : ∀ (AA : Around) g L' h₁ m' tk, m' (Str.ofString "self") = some v0 → m' (Str.ofString "address_type") = some v1 → (envX (Str.ofString "AsymmetricAddress.get_tx_arbitration_id") sc1081 L' 1081 (.ref 1080) []).kindOf (Str.ofString "self") = some .local → (envX (Str.ofString "AsymmetricAddress.get_tx_arbitration_id") sc1081 L' 1081 (.ref 1080) []).kindOf (Str.ofString "address_type") = some .local → ((Str.ofString "self") == (Str.ofString "__debug__")) = false → ((Str.ofString "address_type") == (Str.ofString "__debug__")) = false → Room AA k → AA.frames = some ((envOf (Str.ofString "AsymmetricAddress.get_tx_arbitration_id") sc1081 L' 1081 (.ref 1080)) :: env :: outer) → Fr h₀ L g m → Fr g L' h₁ m' → News g L' h₁ news → Below A base (env :: outer) g → (KF w.params).In g → Top p loose mean mg mb g →
      wpAny (model PySem.Challenge.rw_ff0002_01.row.prog w) AA (execs bd1081 (envOf (Str.ofString "AsymmetricAddress.get_tx_arbitration_id") sc1081 L' 1081 (.ref 1080)))
        (fun fl s' => LeaveK h₀ L m g R (match fl with | .ret v => v | _ => .none) s')
        (fun e s' => wpAny (model PySem.Challenge.rw_ff0002_01.row.prog w) AA (leaving (envOf (Str.ofString "AsymmetricAddress.get_tx_arbitration_id") sc1081 L' 1081 (.ref 1080)) e) (fun _ s'' => R (.error e) s'') (fun e' s'' => R (.error e') s'') s')
        { s with heap := h₁, toks := tk }) : codeAny (model PySem.Challenge.rw_ff0002_01.row.prog w) A (.call (.ref 1081) ⟨[v0, v1], []⟩) R s := by
  have ho : (KF w.params).lookup 1081 = some (ob1081 w.params) := by kernel_rfl
  unfold ob1081 at ho
  have hdv : (KF w.params).lookup 1074 = some (ob1074 w.params) := by kernel_rfl
  obtain ⟨hp, gs, dr, tkk, os⟩ := s
  (refine' enterB nSelfT gN Rm B F X₀ N T hA hf hke ho ?k7 ?k9 nSelfT_nd ?kl ?kg nSelfT_d gN_d ?h ?c2 ?c3 ?c4 ?c5; (case k7 => kernel_rfl); (case k9 => (refine' binds_K (T := 1074) (X₀.keeps F.keep) rfl hdv rfl ?q3 ?q4; (case q3 => exact rfl); (case q4 => exact rfl))); (case kl => decide +kernel); (case kg => decide +kernel); (case c5 => decide); (case c2 => exact rfl); (case c3 => exact rfl); (case c4 => exact rfl))
  (case h => exact fun AA g L' h₁ m' tk hm hml hmg hmd hme => h AA g L' h₁ m' tk (hm _ (List.Mem.head _)) (hm _ (List.Mem.tail _ (List.Mem.head _))) (hml _ (List.Mem.head _)) (hml _ (List.Mem.tail _ (List.Mem.head _))) (hmd _ (List.Mem.head _)) (hmd _ (List.Mem.tail _ (List.Mem.head _))))

theorem ent1089 (Rm : Room A (k + 1)) (B : Below A₀ base outer h₀) (F : Fr h₀ L s.heap m) (X₀ : (KF w.params).In h₀) (N : News h₀ L s.heap news) (T : Top p loose mean mg mb h₀) (hA : A.frames = some (env :: outer)) (hf : env.frame = some L) (hke : env.scope.kind = .function)
    (h : ∀ (AA : Around) g L' h₁ m' tk, m' (Str.ofString "self") = some v0 → m' (Str.ofString "address_type") = some v1 → (envX (Str.ofString "AsymmetricAddress.get_rx_arbitration_id") sc1089 L' 1089 (.ref 1088) []).kindOf (Str.ofString "self") = some .local → (envX (Str.ofString "AsymmetricAddress.get_rx_arbitration_id") sc1089 L' 1089 (.ref 1088) []).kindOf (Str.ofString "address_type") = some .local → ((Str.ofString "self") == (Str.ofString "__debug__")) = false → ((Str.ofString "address_type") == (Str.ofString "__debug__")) = false → Room AA k → AA.frames = some ((envOf (Str.ofString "AsymmetricAddress.get_rx_arbitration_id") sc1089 L' 1089 (.ref 1088)) :: env :: outer) → Fr h₀ L g m → Fr g L' h₁ m' → News g L' h₁ news → Below A base (env :: outer) g → (KF w.params).In g → Top p loose mean mg mb g →
      wpAny (model PySem.Challenge.rw_ff0002_01.row.prog w) AA (execs bd1089 (envOf (Str.ofString "AsymmetricAddress.get_rx_arbitration_id") sc1089 L' 1089 (.ref 1088)))
        (fun fl s' => LeaveK h₀ L m g R (match fl with | .ret v => v | _ => .none) s')
        (fun e s' => wpAny (model PySem.Challenge.rw_ff0002_01.row.prog w) AA (leaving (envOf (Str.ofString "AsymmetricAddress.get_rx_arbitration_id") sc1089 L' 1089 (.ref 1088)) e) (fun _ s'' => R (.error e) s'') (fun e' s'' => R (.error e') s'') s')
        { s with heap := h₁, toks := tk }) : codeAny (model PySem.Challenge.rw_ff0002_01.row.prog w) A (.call (.ref 1089) ⟨[v0, v1], []⟩) R s := by
  have ho : (KF w.params).lookup 1089 = some (ob1089 w.params) := by kernel_rfl
  unfold ob1089 at ho
  have hdv : (KF w.params).lookup 1082 = some (ob1082 w.params) := by kernel_rfl
  obtain ⟨hp, gs, dr, tkk, os⟩ := s
  (refine' enterB nSelfT gN Rm B F X₀ N T hA hf hke ho ?k7 ?k9 nSelfT_nd ?kl ?kg nSelfT_d gN_d ?h ?c2 ?c3 ?c4 ?c5; (case k7 => kernel_rfl); (case k9 => (refine' binds_K (T := 1082) (X₀.keeps F.keep) rfl hdv rfl ?q3 ?q4; (case q3 => exact rfl); (case q4 => exact rfl))); (case kl => decide +kernel); (case kg => decide +kernel); (case c5 => decide); (case c2 => exact rfl); (case c3 => exact rfl); (case c4 => exact rfl))
  (case h => exact fun AA g L' h₁ m' tk hm hml hmg hmd hme => h AA g L' h₁ m' tk (hm _ (List.Mem.head _)) (hm _ (List.Mem.tail _ (List.Mem.head _))) (hml _ (List.Mem.head _)) (hml _ (List.Mem.tail _ (List.Mem.head _))) (hmd _ (List.Mem.head _)) (hmd _ (List.Mem.tail _ (List.Mem.head _))))

theorem ent1096 (Rm : Room A (k + 1)) (B : Below A₀ base outer h₀) (F : Fr h₀ L s.heap m) (X₀ : (KF w.params).In h₀) (N : News h₀ L s.heap news) (T : Top p loose mean mg mb h₀) (hA : A.frames = some (env :: outer)) (hf : env.frame = some L) (hke : env.scope.kind = .function)
    (h : ∀ (AA : Around) g L' h₁ m' tk, m' (Str.ofString "self") = some v0 → (envX (Str.ofString "AsymmetricAddress.is_tx_29bits") sc1096 L' 1096 (.ref 1095) []).kindOf (Str.ofString "self") = some .local → ((Str.ofString "self") == (Str.ofString "__debug__")) = false → Room AA k → AA.frames = some ((envOf (Str.ofString "AsymmetricAddress.is_tx_29bits") sc1096 L' 1096 (.ref 1095)) :: env :: outer) → Fr h₀ L g m → Fr g L' h₁ m' → News g L' h₁ news → Below A base (env :: outer) g → (KF w.params).In g → Top p loose mean mg mb g →
      wpAny (model PySem.Challenge.rw_ff0002_01.row.prog w) AA (execs bd1096 (envOf (Str.ofString "AsymmetricAddress.is_tx_29bits") sc1096 L' 1096 (.ref 1095)))
        (fun fl s' => LeaveK h₀ L m g R (match fl with | .ret v => v | _ => .none) s')
        (fun e s' => wpAny (model PySem.Challenge.rw_ff0002_01.row.prog w) AA (leaving (envOf (Str.ofString "AsymmetricAddress.is_tx_29bits") sc1096 L' 1096 (.ref 1095)) e) (fun _ s'' => R (.error e) s'') (fun e' s'' => R (.error e') s'') s')
        { s with heap := h₁, toks := tk }) : codeAny (model PySem.Challenge.rw_ff0002_01.row.prog w) A (.call (.ref 1096) ⟨[v0], []⟩) R s := by
  have ho : (KF w.params).lookup 1096 = some (ob1096 w.params) := by kernel_rfl
  unfold ob1096 at ho

  obtain ⟨hp, gs, dr, tkk, os⟩ := s
  (refine' enterP nSelf gN Rm B F X₀ N T hA hf hke ho ?k7 ?k9 nSelf_nd ?kl ?kg nSelf_d gN_d ?h ?c2 ?c3 ?c4 ?c5; (case k7 => kernel_rfl); (case k9 => exact rfl); (case kl => decide +kernel); (case kg => decide +kernel); (case c5 => decide); (case c2 => exact rfl); (case c3 => exact rfl); (case c4 => exact rfl))
  (case h => exact fun AA g L' h₁ m' tk hm hml hmg hmd hme => h AA g L' h₁ m' tk (hm _ (List.Mem.head _)) (hml _ (List.Mem.head _)) (hmd _ (List.Mem.head _)))

theorem ent1103 (Rm : Room A (k + 1)) (B : Below A₀ base outer h₀) (F : Fr h₀ L s.heap m) (X₀ : (KF w.params).In h₀) (N : News h₀ L s.heap news) (T : Top p loose mean mg mb h₀) (hA : A.frames = some (env :: outer)) (hf : env.frame = some L) (hke : env.scope.kind = .function)
    (h : ∀ (AA : Around) g L' h₁ m' tk, m' (Str.ofString "self") = some v0 → (envX (Str.ofString "AsymmetricAddress.is_rx_29bits") sc1103 L' 1103 (.ref 1102) []).kindOf (Str.ofString "self") = some .local → ((Str.ofString "self") == (Str.ofString "__debug__")) = false → Room AA k → AA.frames = some ((envOf (Str.ofString "AsymmetricAddress.is_rx_29bits") sc1103 L' 1103 (.ref 1102)) :: env :: outer) → Fr h₀ L g m → Fr g L' h₁ m' → News g L' h₁ news → Below A base (env :: outer) g → (KF w.params).In g → Top p loose mean mg mb g →
      wpAny (model PySem.Challenge.rw_ff0002_01.row.prog w) AA (execs bd1103 (envOf (Str.ofString "AsymmetricAddress.is_rx_29bits") sc1103 L' 1103 (.ref 1102)))
        (fun fl s' => LeaveK h₀ L m g R (match fl with | .ret v => v | _ => .none) s')
        (fun e s' => wpAny (model PySem.Challenge.rw_ff0002_01.row.prog w) AA (leaving (envOf (Str.ofString "AsymmetricAddress.is_rx_29bits") sc1103 L' 1103 (.ref 1102)) e) (fun _ s'' => R (.error e) s'') (fun e' s'' => R (.error e') s'') s')
        { s with heap := h₁, toks := tk }) : codeAny (model PySem.Challenge.rw_ff0002_01.row.prog w) A (.call (.ref 1103) ⟨[v0], []⟩) R s := by
  have ho : (KF w.params).lookup 1103 = some (ob1103 w.params) := by kernel_rfl
  unfold ob1103 at ho

  obtain ⟨hp, gs, dr, tkk, os⟩ := s
  (refine' enterP nSelf gN Rm B F X₀ N T hA hf hke ho ?k7 ?k9 nSelf_nd ?kl ?kg nSelf_d gN_d ?h ?c2 ?c3 ?c4 ?c5; (case k7 => kernel_rfl); (case k9 => exact rfl); (case kl => decide +kernel); (case kg => decide +kernel); (case c5 => decide); (case c2 => exact rfl); (case c3 => exact rfl); (case c4 => exact rfl))
  (case h => exact fun AA g L' h₁ m' tk hm hml hmg hmd hme => h AA g L' h₁ m' tk (hm _ (List.Mem.head _)) (hml _ (List.Mem.head _)) (hmd _ (List.Mem.head _)))

theorem ent1110 (Rm : Room A (k + 1)) (B : Below A₀ base outer h₀) (F : Fr h₀ L s.heap m) (X₀ : (KF w.params).In h₀) (N : News h₀ L s.heap news) (T : Top p loose mean mg mb h₀) (hA : A.frames = some (env :: outer)) (hf : env.frame = some L) (hke : env.scope.kind = .function)
    (h : ∀ (AA : Around) g L' h₁ m' tk, m' (Str.ofString "self") = some v0 → (envX (Str.ofString "AsymmetricAddress.requires_tx_extension_byte") sc1110 L' 1110 (.ref 1109) []).kindOf (Str.ofString "self") = some .local → ((Str.ofString "self") == (Str.ofString "__debug__")) = false → Room AA k → AA.frames = some ((envOf (Str.ofString "AsymmetricAddress.requires_tx_extension_byte") sc1110 L' 1110 (.ref 1109)) :: env :: outer) → Fr h₀ L g m → Fr g L' h₁ m' → News g L' h₁ news → Below A base (env :: outer) g → (KF w.params).In g → Top p loose mean mg mb g →
      wpAny (model PySem.Challenge.rw_ff0002_01.row.prog w) AA (execs bd1110 (envOf (Str.ofString "AsymmetricAddress.requires_tx_extension_byte") sc1110 L' 1110 (.ref 1109)))
        (fun fl s' => LeaveK h₀ L m g R (match fl with | .ret v => v | _ => .none) s')
        (fun e s' => wpAny (model PySem.Challenge.rw_ff0002_01.row.prog w) AA (leaving (envOf (Str.ofString "AsymmetricAddress.requires_tx_extension_byte") sc1110 L' 1110 (.ref 1109)) e) (fun _ s'' => R (.error e) s'') (fun e' s'' => R (.error e') s'') s')
        { s with heap := h₁, toks := tk }) : codeAny (model PySem.Challenge.rw_ff0002_01.row.prog w) A (.call (.ref 1110) ⟨[v0], []⟩) R s := by
  have ho : (KF w.params).lookup 1110 = some (ob1110 w.params) := by kernel_rfl
  unfold ob1110 at ho

  obtain ⟨hp, gs, dr, tkk, os⟩ := s
  (refine' enterP nSelf gN Rm B F X₀ N T hA hf hke ho ?k7 ?k9 nSelf_nd ?kl ?kg nSelf_d gN_d ?h ?c2 ?c3 ?c4 ?c5; (case k7 => kernel_rfl); (case k9 => exact rfl); (case kl => decide +kernel); (case kg => decide +kernel); (case c5 => decide); (case c2 => exact rfl); (case c3 => exact rfl); (case c4 => exact rfl))
  (case h => exact fun AA g L' h₁ m' tk hm hml hmg hmd hme => h AA g L' h₁ m' tk (hm _ (List.Mem.head _)) (hml _ (List.Mem.head _)) (hmd _ (List.Mem.head _)))

theorem ent1117 (Rm : Room A (k + 1)) (B : Below A₀ base outer h₀) (F : Fr h₀ L s.heap m) (X₀ : (KF w.params).In h₀) (N : News h₀ L s.heap news) (T : Top p loose mean mg mb h₀) (hA : A.frames = some (env :: outer)) (hf : env.frame = some L) (hke : env.scope.kind = .function)
    (h : ∀ (AA : Around) g L' h₁ m' tk, m' (Str.ofString "self") = some v0 → (envX (Str.ofString "AsymmetricAddress.requires_rx_extension_byte") sc1117 L' 1117 (.ref 1116) []).kindOf (Str.ofString "self") = some .local → ((Str.ofString "self") == (Str.ofString "__debug__")) = false → Room AA k → AA.frames = some ((envOf (Str.ofString "AsymmetricAddress.requires_rx_extension_byte") sc1117 L' 1117 (.ref 1116)) :: env :: outer) → Fr h₀ L g m → Fr g L' h₁ m' → News g L' h₁ news → Below A base (env :: outer) g → (KF w.params).In g → Top p loose mean mg mb g →
      wpAny (model PySem.Challenge.rw_ff0002_01.row.prog w) AA (execs bd1117 (envOf (Str.ofString "AsymmetricAddress.requires_rx_extension_byte") sc1117 L' 1117 (.ref 1116)))
        (fun fl s' => LeaveK h₀ L m g R (match fl with | .ret v => v | _ => .none) s')
        (fun e s' => wpAny (model PySem.Challenge.rw_ff0002_01.row.prog w) AA (leaving (envOf (Str.ofString "AsymmetricAddress.requires_rx_extension_byte") sc1117 L' 1117 (.ref 1116)) e) (fun _ s'' => R (.error e) s'') (fun e' s'' => R (.error e') s'') s')
        { s with heap := h₁, toks := tk }) : codeAny (model PySem.Challenge.rw_ff0002_01.row.prog w) A (.call (.ref 1117) ⟨[v0], []⟩) R s := by
  have ho : (KF w.params).lookup 1117 = some (ob1117 w.params) := by kernel_rfl
  unfold ob1117 at ho

  obtain ⟨hp, gs, dr, tkk, os⟩ := s
  (refine' enterP nSelf gN Rm B F X₀ N T hA hf hke ho ?k7 ?k9 nSelf_nd ?kl ?kg nSelf_d gN_d ?h ?c2 ?c3 ?c4 ?c5; (case k7 => kernel_rfl); (case k9 => exact rfl); (case kl => decide +kernel); (case kg => decide +kernel); (case c5 => decide); (case c2 => exact rfl); (case c3 => exact rfl); (case c4 => exact rfl))
  (case h => exact fun AA g L' h₁ m' tk hm hml hmg hmd hme => h AA g L' h₁ m' tk (hm _ (List.Mem.head _)) (hml _ (List.Mem.head _)) (hmd _ (List.Mem.head _)))

theorem ent1124 (Rm : Room A (k + 1)) (B : Below A₀ base outer h₀) (F : Fr h₀ L s.heap m) (X₀ : (KF w.params).In h₀) (N : News h₀ L s.heap news) (T : Top p loose mean mg mb h₀) (hA : A.frames = some (env :: outer)) (hf : env.frame = some L) (hke : env.scope.kind = .function)
    (h : ∀ (AA : Around) g L' h₁ m' tk, m' (Str.ofString "self") = some v0 → (envX (Str.ofString "AsymmetricAddress.get_rx_prefix_size") sc1124 L' 1124 (.ref 1123) []).kindOf (Str.ofString "self") = some .local → ((Str.ofString "self") == (Str.ofString "__debug__")) = false → Room AA k → AA.frames = some ((envOf (Str.ofString "AsymmetricAddress.get_rx_prefix_size") sc1124 L' 1124 (.ref 1123)) :: env :: outer) → Fr h₀ L g m → Fr g L' h₁ m' → News g L' h₁ news → Below A base (env :: outer) g → (KF w.params).In g → Top p loose mean mg mb g →
      wpAny (model PySem.Challenge.rw_ff0002_01.row.prog w) AA (execs bd1124 (envOf (Str.ofString "AsymmetricAddress.get_rx_prefix_size") sc1124 L' 1124 (.ref 1123)))
        (fun fl s' => LeaveK h₀ L m g R (match fl with | .ret v => v | _ => .none) s')
        (fun e s' => wpAny (model PySem.Challenge.rw_ff0002_01.row.prog w) AA (leaving (envOf (Str.ofString "AsymmetricAddress.get_rx_prefix_size") sc1124 L' 1124 (.ref 1123)) e) (fun _ s'' => R (.error e) s'') (fun e' s'' => R (.error e') s'') s')
        { s with heap := h₁, toks := tk }) : codeAny (model PySem.Challenge.rw_ff0002_01.row.prog w) A (.call (.ref 1124) ⟨[v0], []⟩) R s := by
  have ho : (KF w.params).lookup 1124 = some (ob1124 w.params) := by kernel_rfl
  unfold ob1124 at ho

  obtain ⟨hp, gs, dr, tkk, os⟩ := s
  (refine' enterP nSelf gN Rm B F X₀ N T hA hf hke ho ?k7 ?k9 nSelf_nd ?kl ?kg nSelf_d gN_d ?h ?c2 ?c3 ?c4 ?c5; (case k7 => kernel_rfl); (case k9 => exact rfl); (case kl => decide +kernel); (case kg => decide +kernel); (case c5 => decide); (case c2 => exact rfl); (case c3 => exact rfl); (case c4 => exact rfl))
  (case h => exact fun AA g L' h₁ m' tk hm hml hmg hmd hme => h AA g L' h₁ m' tk (hm _ (List.Mem.head _)) (hml _ (List.Mem.head _)) (hmd _ (List.Mem.head _)))

theorem ent1131 (Rm : Room A (k + 1)) (B : Below A₀ base outer h₀) (F : Fr h₀ L s.heap m) (X₀ : (KF w.params).In h₀) (N : News h₀ L s.heap news) (T : Top p loose mean mg mb h₀) (hA : A.frames = some (env :: outer)) (hf : env.frame = some L) (hke : env.scope.kind = .function)
    (h : ∀ (AA : Around) g L' h₁ m' tk, m' (Str.ofString "self") = some v0 → (envX (Str.ofString "AsymmetricAddress.get_tx_payload_prefix") sc1131 L' 1131 (.ref 1130) []).kindOf (Str.ofString "self") = some .local → ((Str.ofString "self") == (Str.ofString "__debug__")) = false → Room AA k → AA.frames = some ((envOf (Str.ofString "AsymmetricAddress.get_tx_payload_prefix") sc1131 L' 1131 (.ref 1130)) :: env :: outer) → Fr h₀ L g m → Fr g L' h₁ m' → News g L' h₁ news → Below A base (env :: outer) g → (KF w.params).In g → Top p loose mean mg mb g →
      wpAny (model PySem.Challenge.rw_ff0002_01.row.prog w) AA (execs bd1131 (envOf (Str.ofString "AsymmetricAddress.get_tx_payload_prefix") sc1131 L' 1131 (.ref 1130)))
        (fun fl s' => LeaveK h₀ L m g R (match fl with | .ret v => v | _ => .none) s')
        (fun e s' => wpAny (model PySem.Challenge.rw_ff0002_01.row.prog w) AA (leaving (envOf (Str.ofString "AsymmetricAddress.get_tx_payload_prefix") sc1131 L' 1131 (.ref 1130)) e) (fun _ s'' => R (.error e) s'') (fun e' s'' => R (.error e') s'') s')
        { s with heap := h₁, toks := tk }) : codeAny (model PySem.Challenge.rw_ff0002_01.row.prog w) A (.call (.ref 1131) ⟨[v0], []⟩) R s := by
  have ho : (KF w.params).lookup 1131 = some (ob1131 w.params) := by kernel_rfl
  unfold ob1131 at ho

  obtain ⟨hp, gs, dr, tkk, os⟩ := s
  (refine' enterP nSelf gN Rm B F X₀ N T hA hf hke ho ?k7 ?k9 nSelf_nd ?kl ?kg nSelf_d gN_d ?h ?c2 ?c3 ?c4 ?c5; (case k7 => kernel_rfl); (case k9 => exact rfl); (case kl => decide +kernel); (case kg => decide +kernel); (case c5 => decide); (case c2 => exact rfl); (case c3 => exact rfl); (case c4 => exact rfl))
  (case h => exact fun AA g L' h₁ m' tk hm hml hmg hmd hme => h AA g L' h₁ m' tk (hm _ (List.Mem.head _)) (hml _ (List.Mem.head _)) (hmd _ (List.Mem.head _)))

theorem ent1138 (Rm : Room A (k + 1)) (B : Below A₀ base outer h₀) (F : Fr h₀ L s.heap m) (X₀ : (KF w.params).In h₀) (N : News h₀ L s.heap news) (T : Top p loose mean mg mb h₀) (hA : A.frames = some (env :: outer)) (hf : env.frame = some L) (hke : env.scope.kind = .function)
    (h : ∀ (AA : Around) g L' h₁ m' tk, m' (Str.ofString "self") = some v0 → (envX (Str.ofString "AsymmetricAddress.is_partial_address") sc1138 L' 1138 (.ref 1137) []).kindOf (Str.ofString "self") = some .local → ((Str.ofString "self") == (Str.ofString "__debug__")) = false → Room AA k → AA.frames = some ((envOf (Str.ofString "AsymmetricAddress.is_partial_address") sc1138 L' 1138 (.ref 1137)) :: env :: outer) → Fr h₀ L g m → Fr g L' h₁ m' → News g L' h₁ news → Below A base (env :: outer) g → (KF w.params).In g → Top p loose mean mg mb g →
      wpAny (model PySem.Challenge.rw_ff0002_01.row.prog w) AA (execs bd1138 (envOf (Str.ofString "AsymmetricAddress.is_partial_address") sc1138 L' 1138 (.ref 1137)))
        (fun fl s' => LeaveK h₀ L m g R (match fl with | .ret v => v | _ => .none) s')
        (fun e s' => wpAny (model PySem.Challenge.rw_ff0002_01.row.prog w) AA (leaving (envOf (Str.ofString "AsymmetricAddress.is_partial_address") sc1138 L' 1138 (.ref 1137)) e) (fun _ s'' => R (.error e) s'') (fun e' s'' => R (.error e') s'') s')
        { s with heap := h₁, toks := tk }) : codeAny (model PySem.Challenge.rw_ff0002_01.row.prog w) A (.call (.ref 1138) ⟨[v0], []⟩) R s := by
  have ho : (KF w.params).lookup 1138 = some (ob1138 w.params) := by kernel_rfl
  unfold ob1138 at ho

  obtain ⟨hp, gs, dr, tkk, os⟩ := s
  (refine' enterP nSelf gN Rm B F X₀ N T hA hf hke ho ?k7 ?k9 nSelf_nd ?kl ?kg nSelf_d gN_d ?h ?c2 ?c3 ?c4 ?c5; (case k7 => kernel_rfl); (case k9 => exact rfl); (case kl => decide +kernel); (case kg => decide +kernel); (case c5 => decide); (case c2 => exact rfl); (case c3 => exact rfl); (case c4 => exact rfl))
  (case h => exact fun AA g L' h₁ m' tk hm hml hmg hmd hme => h AA g L' h₁ m' tk (hm _ (List.Mem.head _)) (hml _ (List.Mem.head _)) (hmd _ (List.Mem.head _)))

theorem ent926d (Rm : Room A (k + 1)) (B : Below A₀ base outer h₀) (F : Fr h₀ L s.heap m) (X₀ : (KF w.params).In h₀) (N : News h₀ L s.heap news) (T : Top p loose mean mg mb h₀) (hA : A.frames = some (env :: outer)) (hf : env.frame = some L) (hke : env.scope.kind = .function)
    (h : ∀ (AA : Around) g L' h₁ m' tk, m' (Str.ofString "self") = some v0 → m' (Str.ofString "address_type") = some (.ref 727) → (envX (Str.ofString "Address.get_tx_arbitration_id") sc926 L' 926 (.ref 925) []).kindOf (Str.ofString "self") = some .local → (envX (Str.ofString "Address.get_tx_arbitration_id") sc926 L' 926 (.ref 925) []).kindOf (Str.ofString "address_type") = some .local → (envX (Str.ofString "Address.get_tx_arbitration_id") sc926 L' 926 (.ref 925) []).kindOf (Str.ofString "TargetAddressType") = some .globalImplicit → ((Str.ofString "self") == (Str.ofString "__debug__")) = false → ((Str.ofString "address_type") == (Str.ofString "__debug__")) = false → ((Str.ofString "TargetAddressType") == (Str.ofString "__debug__")) = false → Room AA k → AA.frames = some ((envOf (Str.ofString "Address.get_tx_arbitration_id") sc926 L' 926 (.ref 925)) :: env :: outer) → Fr h₀ L g m → Fr g L' h₁ m' → News g L' h₁ news → Below A base (env :: outer) g → (KF w.params).In g → Top p loose mean mg mb g →
      wpAny (model PySem.Challenge.rw_ff0002_01.row.prog w) AA (execs bd926 (envOf (Str.ofString "Address.get_tx_arbitration_id") sc926 L' 926 (.ref 925)))
        (fun fl s' => LeaveK h₀ L m g R (match fl with | .ret v => v | _ => .none) s')
        (fun e s' => wpAny (model PySem.Challenge.rw_ff0002_01.row.prog w) AA (leaving (envOf (Str.ofString "Address.get_tx_arbitration_id") sc926 L' 926 (.ref 925)) e) (fun _ s'' => R (.error e) s'') (fun e' s'' => R (.error e') s'') s')
        { s with heap := h₁, toks := tk }) : codeAny (model PySem.Challenge.rw_ff0002_01.row.prog w) A (.call (.ref 926) ⟨[v0], []⟩) R s := by
  have ho : (KF w.params).lookup 926 = some (ob926 w.params) := by kernel_rfl
  unfold ob926 at ho
  have hdv : (KF w.params).lookup 919 = some (ob919 w.params) := by kernel_rfl
  obtain ⟨hp, gs, dr, tkk, os⟩ := s
  (refine' enterD (.ref 727) nSelfT gT Rm B F X₀ N T hA hf hke ho ?k7 ?k9 nSelfT_nd ?kl ?kg nSelfT_d gT_d ?h ?c2 ?c3 ?c4 ?c5; (case k7 => kernel_rfl); (case k9 => (refine' binds_K (T := 919) (X₀.keeps F.keep) rfl hdv rfl ?q3 ?q4; (case q3 => exact rfl); (case q4 => exact rfl))); (case kl => decide +kernel); (case kg => decide +kernel); (case c5 => decide); (case c2 => exact rfl); (case c3 => exact rfl); (case c4 => exact rfl))
  (case h => exact fun AA g L' h₁ m' tk hm hml hmg hmd hme => h AA g L' h₁ m' tk (hm _ (List.Mem.head _)) (hm _ (List.Mem.tail _ (List.Mem.head _))) (hml _ (List.Mem.head _)) (hml _ (List.Mem.tail _ (List.Mem.head _))) (hmg _ (List.Mem.head _)) (hmd _ (List.Mem.head _)) (hmd _ (List.Mem.tail _ (List.Mem.head _))) (hme _ (List.Mem.head _)))

theorem ent934d (Rm : Room A (k + 1)) (B : Below A₀ base outer h₀) (F : Fr h₀ L s.heap m) (X₀ : (KF w.params).In h₀) (N : News h₀ L s.heap news) (T : Top p loose mean mg mb h₀) (hA : A.frames = some (env :: outer)) (hf : env.frame = some L) (hke : env.scope.kind = .function)
    (h : ∀ (AA : Around) g L' h₁ m' tk, m' (Str.ofString "self") = some v0 → m' (Str.ofString "address_type") = some (.ref 727) → (envX (Str.ofString "Address.get_rx_arbitration_id") sc934 L' 934 (.ref 933) []).kindOf (Str.ofString "self") = some .local → (envX (Str.ofString "Address.get_rx_arbitration_id") sc934 L' 934 (.ref 933) []).kindOf (Str.ofString "address_type") = some .local → (envX (Str.ofString "Address.get_rx_arbitration_id") sc934 L' 934 (.ref 933) []).kindOf (Str.ofString "TargetAddressType") = some .globalImplicit → ((Str.ofString "self") == (Str.ofString "__debug__")) = false → ((Str.ofString "address_type") == (Str.ofString "__debug__")) = false → ((Str.ofString "TargetAddressType") == (Str.ofString "__debug__")) = false → Room AA k → AA.frames = some ((envOf (Str.ofString "Address.get_rx_arbitration_id") sc934 L' 934 (.ref 933)) :: env :: outer) → Fr h₀ L g m → Fr g L' h₁ m' → News g L' h₁ news → Below A base (env :: outer) g → (KF w.params).In g → Top p loose mean mg mb g →
      wpAny (model PySem.Challenge.rw_ff0002_01.row.prog w) AA (execs bd934 (envOf (Str.ofString "Address.get_rx_arbitration_id") sc934 L' 934 (.ref 933)))
        (fun fl s' => LeaveK h₀ L m g R (match fl with | .ret v => v | _ => .none) s')
        (fun e s' => wpAny (model PySem.Challenge.rw_ff0002_01.row.prog w) AA (leaving (envOf (Str.ofString "Address.get_rx_arbitration_id") sc934 L' 934 (.ref 933)) e) (fun _ s'' => R (.error e) s'') (fun e' s'' => R (.error e') s'') s')
        { s with heap := h₁, toks := tk }) : codeAny (model PySem.Challenge.rw_ff0002_01.row.prog w) A (.call (.ref 934) ⟨[v0], []⟩) R s := by
  have ho : (KF w.params).lookup 934 = some (ob934 w.params) := by kernel_rfl
  unfold ob934 at ho
  have hdv : (KF w.params).lookup 927 = some (ob927 w.params) := by kernel_rfl
  obtain ⟨hp, gs, dr, tkk, os⟩ := s
  (refine' enterD (.ref 727) nSelfT gT Rm B F X₀ N T hA hf hke ho ?k7 ?k9 nSelfT_nd ?kl ?kg nSelfT_d gT_d ?h ?c2 ?c3 ?c4 ?c5; (case k7 => kernel_rfl); (case k9 => (refine' binds_K (T := 927) (X₀.keeps F.keep) rfl hdv rfl ?q3 ?q4; (case q3 => exact rfl); (case q4 => exact rfl))); (case kl => decide +kernel); (case kg => decide +kernel); (case c5 => decide); (case c2 => exact rfl); (case c3 => exact rfl); (case c4 => exact rfl))
  (case h => exact fun AA g L' h₁ m' tk hm hml hmg hmd hme => h AA g L' h₁ m' tk (hm _ (List.Mem.head _)) (hm _ (List.Mem.tail _ (List.Mem.head _))) (hml _ (List.Mem.head _)) (hml _ (List.Mem.tail _ (List.Mem.head _))) (hmg _ (List.Mem.head _)) (hmd _ (List.Mem.head _)) (hmd _ (List.Mem.tail _ (List.Mem.head _))) (hme _ (List.Mem.head _)))

theorem ent1081d (Rm : Room A (k + 1)) (B : Below A₀ base outer h₀) (F : Fr h₀ L s.heap m) (X₀ : (KF w.params).In h₀) (N : News h₀ L s.heap news) (T : Top p loose mean mg mb h₀) (hA : A.frames = some (env :: outer)) (hf : env.frame = some L) (hke : env.scope.kind = .function)
    (h : ∀ (AA : Around) g L' h₁ m' tk, m' (Str.ofString "self") = some v0 → m' (Str.ofString "address_type") = some (.ref 727) → (envX (Str.ofString "AsymmetricAddress.get_tx_arbitration_id") sc1081 L' 1081 (.ref 1080) []).kindOf (Str.ofString "self") = some .local → (envX (Str.ofString "AsymmetricAddress.get_tx_arbitration_id") sc1081 L' 1081 (.ref 1080) []).kindOf (Str.ofString "address_type") = some .local → ((Str.ofString "self") == (Str.ofString "__debug__")) = false → ((Str.ofString "address_type") == (Str.ofString "__debug__")) = false → Room AA k → AA.frames = some ((envOf (Str.ofString "AsymmetricAddress.get_tx_arbitration_id") sc1081 L' 1081 (.ref 1080)) :: env :: outer) → Fr h₀ L g m → Fr g L' h₁ m' → News g L' h₁ news → Below A base (env :: outer) g → (KF w.params).In g → Top p loose mean mg mb g →
      wpAny (model PySem.Challenge.rw_ff0002_01.row.prog w) AA (execs bd1081 (envOf (Str.ofString "AsymmetricAddress.get_tx_arbitration_id") sc1081 L' 1081 (.ref 1080)))
        (fun fl s' => LeaveK h₀ L m g R (match fl with | .ret v => v | _ => .none) s')
        (fun e s' => wpAny (model PySem.Challenge.rw_ff0002_01.row.prog w) AA (leaving (envOf (Str.ofString "AsymmetricAddress.get_tx_arbitration_id") sc1081 L' 1081 (.ref 1080)) e) (fun _ s'' => R (.error e) s'') (fun e' s'' => R (.error e') s'') s')
        { s with heap := h₁, toks := tk }) : codeAny (model PySem.Challenge.rw_ff0002_01.row.prog w) A (.call (.ref 1081) ⟨[v0], []⟩) R s := by
  have ho : (KF w.params).lookup 1081 = some (ob1081 w.params) := by kernel_rfl
  unfold ob1081 at ho
  have hdv : (KF w.params).lookup 1074 = some (ob1074 w.params) := by kernel_rfl
  obtain ⟨hp, gs, dr, tkk, os⟩ := s
  (refine' enterD (.ref 727) nSelfT gN Rm B F X₀ N T hA hf hke ho ?k7 ?k9 nSelfT_nd ?kl ?kg nSelfT_d gN_d ?h ?c2 ?c3 ?c4 ?c5; (case k7 => kernel_rfl); (case k9 => (refine' binds_K (T := 1074) (X₀.keeps F.keep) rfl hdv rfl ?q3 ?q4; (case q3 => exact rfl); (case q4 => exact rfl))); (case kl => decide +kernel); (case kg => decide +kernel); (case c5 => decide); (case c2 => exact rfl); (case c3 => exact rfl); (case c4 => exact rfl))
  (case h => exact fun AA g L' h₁ m' tk hm hml hmg hmd hme => h AA g L' h₁ m' tk (hm _ (List.Mem.head _)) (hm _ (List.Mem.tail _ (List.Mem.head _))) (hml _ (List.Mem.head _)) (hml _ (List.Mem.tail _ (List.Mem.head _))) (hmd _ (List.Mem.head _)) (hmd _ (List.Mem.tail _ (List.Mem.head _))))

theorem ent1089d (Rm : Room A (k + 1)) (B : Below A₀ base outer h₀) (F : Fr h₀ L s.heap m) (X₀ : (KF w.params).In h₀) (N : News h₀ L s.heap news) (T : Top p loose mean mg mb h₀) (hA : A.frames = some (env :: outer)) (hf : env.frame = some L) (hke : env.scope.kind = .function)
    (h : ∀ (AA : Around) g L' h₁ m' tk, m' (Str.ofString "self") = some v0 → m' (Str.ofString "address_type") = some (.ref 727) → (envX (Str.ofString "AsymmetricAddress.get_rx_arbitration_id") sc1089 L' 1089 (.ref 1088) []).kindOf (Str.ofString "self") = some .local → (envX (Str.ofString "AsymmetricAddress.get_rx_arbitration_id") sc1089 L' 1089 (.ref 1088) []).kindOf (Str.ofString "address_type") = some .local → ((Str.ofString "self") == (Str.ofString "__debug__")) = false → ((Str.ofString "address_type") == (Str.ofString "__debug__")) = false → Room AA k → AA.frames = some ((envOf (Str.ofString "AsymmetricAddress.get_rx_arbitration_id") sc1089 L' 1089 (.ref 1088)) :: env :: outer) → Fr h₀ L g m → Fr g L' h₁ m' → News g L' h₁ news → Below A base (env :: outer) g → (KF w.params).In g → Top p loose mean mg mb g →
      wpAny (model PySem.Challenge.rw_ff0002_01.row.prog w) AA (execs bd1089 (envOf (Str.ofString "AsymmetricAddress.get_rx_arbitration_id") sc1089 L' 1089 (.ref 1088)))
        (fun fl s' => LeaveK h₀ L m g R (match fl with | .ret v => v | _ => .none) s')
        (fun e s' => wpAny (model PySem.Challenge.rw_ff0002_01.row.prog w) AA (leaving (envOf (Str.ofString "AsymmetricAddress.get_rx_arbitration_id") sc1089 L' 1089 (.ref 1088)) e) (fun _ s'' => R (.error e) s'') (fun e' s'' => R (.error e') s'') s')
        { s with heap := h₁, toks := tk }) : codeAny (model PySem.Challenge.rw_ff0002_01.row.prog w) A (.call (.ref 1089) ⟨[v0], []⟩) R s := by
  have ho : (KF w.params).lookup 1089 = some (ob1089 w.params) := by kernel_rfl
  unfold ob1089 at ho
  have hdv : (KF w.params).lookup 1082 = some (ob1082 w.params) := by kernel_rfl
  obtain ⟨hp, gs, dr, tkk, os⟩ := s
  (refine' enterD (.ref 727) nSelfT gN Rm B F X₀ N T hA hf hke ho ?k7 ?k9 nSelfT_nd ?kl ?kg nSelfT_d gN_d ?h ?c2 ?c3 ?c4 ?c5; (case k7 => kernel_rfl); (case k9 => (refine' binds_K (T := 1082) (X₀.keeps F.keep) rfl hdv rfl ?q3 ?q4; (case q3 => exact rfl); (case q4 => exact rfl))); (case kl => decide +kernel); (case kg => decide +kernel); (case c5 => decide); (case c2 => exact rfl); (case c3 => exact rfl); (case c4 => exact rfl))
  (case h => exact fun AA g L' h₁ m' tk hm hml hmg hmd hme => h AA g L' h₁ m' tk (hm _ (List.Mem.head _)) (hm _ (List.Mem.tail _ (List.Mem.head _))) (hml _ (List.Mem.head _)) (hml _ (List.Mem.tail _ (List.Mem.head _))) (hmd _ (List.Mem.head _)) (hmd _ (List.Mem.tail _ (List.Mem.head _))))

end

theorem no_of {al : List (Nat × Value)} (h : (al.all fun q => q.1 < 20) = true) : ∀ i, 20 ≤ i → al.lookup i = none := by
  intro i hi
  induction al with
  | nil => rfl
  | cons q r ih =>
    rw [List.all_cons, Bool.and_eq_true] at h
    obtain ⟨j, v⟩ := q
    rw [List.lookup_cons]
    have : (i == j) = false := by
      rw [beq_eq_false_iff_ne]
      have := of_decide_eq_true h.1
      dsimp only at this
      omega
    rw [this]
    exact ih h.2
theorem up_ne {m : Str → Option Value} {x y : Str} {v r : Option Value} (h : y ≠ x) (e : m y = r) : (if y = x then v else m y) = r := by rw [if_neg h]; exact e
theorem up_eq {x : Str} {v r : Option Value} : (if x = x then v else r) = v := if_pos rfl

theorem nat_and_low {k c t : Nat} (h : t < 2 ^ k) : (2 ^ k * c) &&& t = 0 := by
  have e := nat_or_add_and (2 ^ k * c) t
  rw [← Nat.two_pow_add_eq_or_of_lt h] at e
  omega
theorem or_low {c t : Int} (k : Nat) (hc : 0 ≤ c) (ht : 0 ≤ t) (h : t < 2 ^ k) : Builtin.bitOr (2 ^ k * c) t = 2 ^ k * c + t := by
  have hp : (0 : Int) < 2 ^ k := kbt_pos k
  rw [bitOr_and, bitAnd_pp (Int.mul_nonneg (Int.le_of_lt hp) hc) ht]
  have e1 : (2 ^ k * c : Int).toNat = 2 ^ k * c.toNat := by
    apply Int.ofNat.inj
    show ((2 ^ k * c : Int).toNat : Int) = ((2 ^ k * c.toNat : Nat) : Int)
    rw [Int.toNat_of_nonneg (Int.mul_nonneg (Int.le_of_lt hp) hc), Int.natCast_mul, kbt_cast, Int.toNat_of_nonneg hc]
  have h' : t.toNat < 2 ^ k := by
    have : ((t.toNat : Nat) : Int) < ((2 ^ k : Nat) : Int) := by rw [kbt_cast, Int.toNat_of_nonneg ht]; exact h
    exact Int.ofNat_lt.mp this
  rw [e1, nat_and_low h']
  simp
theorem num_or {C c o t : Int} (hC : C = 65536 * c) (hc : 0 ≤ c) (ho : 0 ≤ o) (ho' : o ≤ 255) (ht : 0 ≤ t) (ht' : t ≤ 255) : Builtin.bitOr (Builtin.bitOr C (o * 2 ^ Int.toNat 8)) t = C + 256 * o + t := by
  have e8 : (2 : Int) ^ Int.toNat 8 = 256 := by decide
  rw [e8]
  have e1 : Builtin.bitOr C (o * 256) = C + 256 * o := by
    have := or_low (c := c) (t := o * 256) 16 hc (by omega) (by show o * 256 < 65536; omega)
    rw [show (2 : Int) ^ 16 = 65536 from by decide, ← hC] at this
    rw [this]; omega
  rw [e1]
  have := or_low (c := 256 * c + o) (t := t) 8 (by omega) ht (by show t < 256; omega)
  rw [show (2 : Int) ^ 8 = 256 from by decide] at this
  have e2 : C + 256 * o = 256 * (256 * c + o) := by omega
  rw [e2, this]
theorem vi_num {al : List (Nat × Value)} {i : Nat} {v j : Int} {t : Tok} (h : al.lookup i = some (.int v t)) (e : v = j) : Vi al i (some j) := ⟨t, e ▸ h⟩
theorem nat_and_high (k x m : Nat) : x &&& (2 ^ k * m) = 2 ^ k * (x / 2 ^ k &&& m) := by
  apply Nat.eq_of_testBit_eq
  intro i
  rw [Nat.testBit_and, Nat.testBit_two_pow_mul, Nat.testBit_two_pow_mul, Nat.testBit_and, Nat.testBit_div_two_pow]
  by_cases h : k ≤ i
  · rw [show i - k + k = i from by omega]
    simp [h]
  · simp [h]
theorem and_high {x : Int} (hx : 0 ≤ x) (k j : Nat) : Builtin.bitAnd x (2 ^ k * (2 ^ j - 1)) = 2 ^ k * (x / 2 ^ k % 2 ^ j) := by
  have hp : (0 : Int) < 2 ^ k := kbt_pos k
  have hj : (0 : Int) < 2 ^ j := kbt_pos j
  obtain ⟨n, rfl⟩ := Int.eq_ofNat_of_zero_le hx
  have e1 : (2 ^ k * (2 ^ j - 1) : Int) = ((2 ^ k * (2 ^ j - 1) : Nat) : Int) := by
    rw [Int.natCast_mul, kbt_cast, Int.natCast_sub (Nat.one_le_two_pow), kbt_cast]; rfl
  rw [e1, bitAnd_pp hx (Int.natCast_nonneg _), Int.toNat_natCast, Int.toNat_natCast, nat_and_high, Nat.and_two_pow_sub_one_eq_mod, Int.natCast_mul, Int.natCast_emod, Int.natCast_ediv, kbt_cast, kbt_cast]
theorem and_ids {x : Int} (hx : 0 ≤ x) (h : x < 536870912) : Builtin.bitAnd x 536805376 = x - x % 65536 := by
  have := and_high hx 16 13
  rw [show (2 : Int) ^ 16 * (2 ^ 13 - 1) = 536805376 from by decide, show (2 : Int) ^ 16 = 65536 from by decide, show (2 : Int) ^ 13 = 8192 from by decide] at this
  rw [this]; omega
theorem and_src {x : Int} (hx : 0 ≤ x) : Builtin.bitAnd x 65280 = 256 * (x / 256 % 256) := by
  have := and_high hx 8 8
  rw [show (2 : Int) ^ 8 * (2 ^ 8 - 1) = 65280 from by decide, show (2 : Int) ^ 8 = 256 from by decide] at this
  exact this
theorem and_low {x : Int} : Builtin.bitAnd x 255 = x % 256 := by
  have := kbt_mask x 8
  rw [show (2 : Int) ^ 8 - 1 = 255 from by decide, show (2 : Int) ^ 8 = 256 from by decide] at this
  exact this

/-- the list that is told: the script in the base, or a list made -/
def Told (h₀ : Heap) (led : Led) (told : Addr) (xs : List Int) : Prop := ∃ its : List Value, IntsAre its xs ∧ (h₀.IsList told its.toArray ∨ ∃ n, (told, listOf its.toArray n) ∈ led)
theorem Told.stay {h₀ g : Heap} {L : Addr} {m : Str → Option Value} {led : Led} {told : Addr} {xs : List Int} (T : Told h₀ led told xs) (F : Fr h₀ L g m) : Told g led told xs := by
  obtain ⟨its, hi, h⟩ := T
  refine ⟨its, hi, ?_⟩
  rcases h with h | h
  · exact .inl (stays_list F.keep h)
  · exact .inr h
theorem Told.at {h₀ h : Heap} {L : Addr} {m : Str → Option Value} {led led' : Led} {told : Addr} {xs : List Int} (T : Told h₀ led told xs) (F : Fr h₀ L h m) (N : News h₀ L h led') (hs : ∀ p ∈ led, p ∈ led') : ∃ its : List Value, h.IsList told its.toArray ∧ IntsAre its xs := by
  obtain ⟨its, hi, h⟩ := T
  refine ⟨its, ?_, hi⟩
  rcases h with h | ⟨n, h⟩
  · exact stays_list F.keep h
  · exact ⟨_, (N _ (hs _ h)).1, rfl, n, rfl⟩
section
variable {prog : Program} {w : World} {A : Around} {E : Value → Shared → Prop} {hp : Heap} {gs : Array GenState} {dr : Drawn} {tk₀ : Nat} {os : OsState} {h₀ : Heap} {L : Addr} {m : Str → Option Value} {rest : Led} {told lat : Addr} {xs : List Int} {n : Nat}
theorem told_item {value slice : Expr} {o : Obj} {k : Int} {u : Tok} {Q : Value → Shared → Prop} (T : Told h₀ rest told xs) (F : Fr h₀ L hp m) (N : News h₀ L hp ((lat, o) :: rest)) (h0 : 0 ≤ k) (h1 : k < xs.length) (hx : xs.length ≤ 63)
    (h : ∀ t, Q (.int (xs.getD k.toNat 0) t) ⟨hp, gs, dr, tk₀, os⟩)
    (hs : subscripted slice false (.ref told) (.int k u) = operate [.ref told, .int k u] (getItem (.ref told) (.int k u)) := by with_unfolding_all rfl) (hg : ∀ r, letTemporaryGo value (.ref told) r = pure () := by intro _; with_unfolding_all rfl) :
    wpAny (model prog w) A (subscriptTail value slice (.ref told) (.int k u)) Q E ⟨hp, gs, dr, tk₀, os⟩ := by
  obtain ⟨its, hl, hi⟩ := T.at F N (fun p hp => .tail _ hp)
  exact item_list_ints (s := ⟨hp, gs, dr, tk₀, os⟩) hl hi h0 h1 (by omega) h hs hg
theorem told_len {o : Obj} {Q : Value → Shared → Prop} (T : Told h₀ rest told xs) (F : Fr h₀ L hp m) (N : News h₀ L hp ((lat, o) :: rest)) (hx : xs.length ≤ 63) (h : ∀ t tk, Q (.int xs.length t) ⟨hp, gs, dr, tk, os⟩) :
    wpAny (model prog w) A (call (.builtin "len") [.ref told]) Q E ⟨hp, gs, dr, tk₀, os⟩ := by
  obtain ⟨its, hl, hi⟩ := T.at F N (fun p hp => .tail _ hp)
  have e : ((its.toArray.size : Nat) : Int) = xs.length := by rw [List.size_toArray, hi.length]
  refine call_len_list (s := ⟨hp, gs, dr, tk₀, os⟩) hl (by rw [e]; omega) ?_
  rw [e]
  exact h _ _
end
theorem seven_pos (n : Nat) : (0 : Int) < 7 ^ n := Int.pow_pos (by decide)
theorem seven_ne (n : Nat) : (7 ^ n : Int) ≠ 0 := Int.ne_of_gt (seven_pos n)
theorem seven_log {n : Nat} (h : n ≤ 64) : ((7 ^ n : Int)).natAbs.log2 < 9000 := by
  have e : ((7 ^ n : Int)).natAbs = 7 ^ n := by rw [Int.natAbs_pow]; rfl
  rw [e]
  refine (Nat.log2_lt (Nat.ne_of_gt (Nat.pow_pos (by decide)))).mpr ?_
  have h1 : 7 ^ n ≤ 8 ^ n := Nat.pow_le_pow_left (by decide) n
  have h2 : 8 ^ n = 2 ^ (3 * n) := by rw [Nat.pow_mul]
  have h3 : 2 ^ (3 * n) < 2 ^ 9000 := Nat.pow_lt_pow_right (by decide) (by omega)
  omega
theorem div_log {k n : Int} (hk : 0 ≤ k) (hn : 0 < n) (h : k ≤ 64) : (k.fdiv n).toNat ≤ 64 := by
  rw [Int.fdiv_eq_ediv_of_nonneg _ (Int.le_of_lt hn)]
  have := Int.ediv_le_self n hk
  omega
theorem mod_lo {k n : Int} (hn : 0 < n) : 0 ≤ k.fmod n := Int.fmod_nonneg_of_pos _ hn
theorem mod_hi {k n : Int} (hn : 0 < n) : k.fmod n < n := Int.fmod_lt_of_pos _ hn
theorem div_lo {k n : Int} (hk : 0 ≤ k) (hn : 0 < n) : 0 ≤ k.fdiv n := Int.fdiv_nonneg hk (Int.le_of_lt hn)
theorem div_hi {k n : Int} (hk : 0 ≤ k) (hn : 0 < n) (h : k ≤ 1000000) : k.fdiv n ≤ 1000000 := by
  rw [Int.fdiv_eq_ediv_of_nonneg _ (Int.le_of_lt hn)]
  exact Int.le_trans (Int.ediv_le_self _ hk) h
/-- a draw: from any caller, at's place one further, a value below -/
def Draws (w : World) (rest : Led) (told lat : Addr) (xs : List Int) (n : Nat) : Prop :=
  ∀ (p : Program) (loose : List Str) (mean : ExcName → Option Value) (mg mb : Str → Option Value) (A : Around) (env : Env) (outer : List Env) (A₀ : Around) (base h₀ : Heap) (L : Addr) (m : Str → Option Value) (s : Shared) (Q E : Value → Shared → Prop) (j : Nat) (k below : Int) (tk tb : Tok),
    Below A₀ base outer h₀ → Fr h₀ L s.heap m → (KF w.params).In h₀ → News h₀ L s.heap ((lat, listOf #[.int k tk] n) :: rest) → Top p loose mean mg mb h₀ → A.frames = some (env :: outer) → env.frame = some L → env.scope.kind = .function → Room A (j + 1) →
    Told h₀ rest told xs → 0 ≤ k → k ≤ 64 → 0 < below → below ≤ 256 →
    (∀ v t t' h' tk', 0 ≤ v → v < below → Fr h₀ L h' m → News h₀ L h' ((lat, listOf #[.int (k + 1) t'] n) :: rest) → Q (.int v t) { s with heap := h', toks := tk' }) →
    wpAny (model PySem.Challenge.rw_ff0002_01.row.prog w) A (call (.ref 1178) [.ref told, .ref lat, .int below tb]) Q E s

/-- a method of an address in the ledger, from any caller -/
def Meth (w : World) (al : List (Nat × Value)) (f : Addr) (more : List Value) (P : Value → Prop) : Prop :=
  ∀ (p : Program) (loose : List Str) (mean : ExcName → Option Value) (mg mb : Str → Option Value) (A : Around) (env : Env) (outer : List Env) (A₀ : Around) (base h₀ : Heap) (L : Addr) (m : Str → Option Value) (s : Shared) (Q E : Value → Shared → Prop) (j : Nat) (news : Led) (x d : Addr) (es : List DictEntry) (n : Nat),
    Below A₀ base outer h₀ → Fr h₀ L s.heap m → (KF w.params).In h₀ → News h₀ L s.heap news → Top p loose mean mg mb h₀ → A.frames = some (env :: outer) → env.frame = some L → env.scope.kind = .function → Room A (j + 4) →
    (x, instObj 1036 d) ∈ news → (d, dictOf es n) ∈ news → Has es al →
    (∀ v h' tk', P v → Fr h₀ L h' m → News h₀ L h' news → Q v { s with heap := h', toks := tk' }) →
    wpAny (model PySem.Challenge.rw_ff0002_01.row.prog w) A (call (.ref f) (.ref x :: more)) Q E s
theorem me_end {P : Value → Prop} {h₀ h' : Heap} {L : Addr} {m : Str → Option Value} {s : Shared} {Q : Value → Shared → Prop} {news : Led} {v : Value} {tk' : Nat}
    (hret : ∀ v h' tk', P v → Fr h₀ L h' m → News h₀ L h' news → Q v { s with heap := h', toks := tk' }) (F : Fr h₀ L h' m) (N : News h₀ L h' news) (h : P v) : Q v { s with heap := h', toks := tk' } := hret _ _ _ h F N
theorem noAt {al : List (Nat × Value)} {i : Nat} (h : ∀ i, 20 ≤ i → al.lookup i = none) (hi : Nat.ble 20 i = true) : al.lookup i = none := h i (Nat.le_of_ble_eq_true hi)

/-- the slots of a message: name, place, descriptor -/
inductive Ms : Str → Nat → Addr → Prop
  | id : Ms (Str.ofString "arbitration_id") 0 1164
  | brs : Ms (Str.ofString "bitrate_switch") 1 1165
  | data : Ms (Str.ofString "data") 2 1166
  | dlc : Ms (Str.ofString "dlc") 3 1167
  | ext : Ms (Str.ofString "is_extended_id") 4 1168
  | fd : Ms (Str.ofString "is_fd") 5 1169
theorem Ms.fact (w : World) {x : Str} {i : Nat} {p : Addr} (h : Ms x i p) : takerIn (KF w.params) 1163 x = some (some (.ref p)) ∧ typeIn (KF w.params) (.ref p) = some (.type "member_descriptor") ∧ slotIn (KF w.params) p 1163 = some i ∧ plainGet (KF w.params) 1163 x = true ∧ findIn (KF w.params) (.ref 1163) x = some (some (.ref p)) ∧ specialIn (KF w.params) (.ref p) "__get__" = some (some (.builtin "member_descriptor.__get__")) ∧ takesIn (KF w.params) (.ref p) = some true ∧ i < 1000 := by
  cases h <;> exact ⟨by kernel_rfl, by kernel_rfl, by kernel_rfl, by kernel_rfl, by kernel_rfl, by kernel_rfl, by kernel_rfl, by decide⟩
theorem ms_set (w : World) : findIn (KF w.params) (.ref 1163) "__setattr__" = some (some (.builtin "object.__setattr__")) ∧ plainOver (KF w.params) 1163 = true ∧ isClsIn (KF w.params) 1163 = true := ⟨by kernel_rfl, by kernel_rfl, by kernel_rfl⟩
def msgO (d : Addr) (sl : Array (Option Value)) : Obj := ⟨.ref 1163, some d, .plain, sl⟩
section
variable {prog : Program} {w : World} {A : Around} {E : Value → Shared → Prop} {hp : Heap} {gs : Array GenState} {dr : Drawn} {tk₀ : Nat} {os : OsState} {h₀ : Heap} {L x d a : Addr} {m : Str → Option Value} {news rest : Led} {sl sl' : Array (Option Value)} {v : Value} {name : Str} {i : Nat} {p : Addr}
theorem sam {Q : Unit → Shared → Prop} (F : Fr h₀ L hp m) (X : (KF w.params).In h₀) (N : News h₀ L hp ((x, msgO d sl) :: (d, dictOf [] 0) :: rest)) (hxd : x ≠ d) (hr : ∀ q ∈ rest, q.1 ≠ x) (hn : Ms name i p)
    (e : (sl ++ Array.replicate (i + 1 - sl.size) none).setIfInBounds i (some v) = sl') (h : ∀ h' tk, Fr h₀ L h' m → News h₀ L h' ((x, msgO d sl') :: (d, dictOf [] 0) :: rest) → Q () ⟨h', gs, dr, tk, os⟩) :
    wpAny (model prog w) A (setAttr (.ref x) name v) Q E ⟨hp, gs, dr, tk₀, os⟩ := by
  obtain ⟨f1, f2, f3, f4, f5, f6, f7, f8⟩ := hn.fact w
  refine set_slot (s := ⟨hp, gs, dr, tk₀, os⟩) (ox := msgO d sl) (ox' := msgO d sl') F X N (InstAt.of_news N (.head _) (.tail _ (.head _))) (ms_set w).1 (ms_set w).2.1 f1 f2 f3 f8 ?_ rfl (.head ?_) (fun h' F' N' => h h' _ F' N')
  · unfold msgO; rw [← e]
  · intro q hq
    rcases List.mem_cons.mp hq with rfl | hq
    · exact fun z => hxd z.symm
    · exact hr _ hq
theorem rdm {expr : Bool} {Q : Value → Shared → Prop} (F : Fr h₀ L hp m) (X : (KF w.params).In h₀) (N : News h₀ L hp news) (h1 : (x, msgO d sl) ∈ news) (h2 : (d, dictOf [] 0) ∈ news) (hn : Ms name i p) (hv : (sl[i]?).join = some v) (hh : handedIn v = true) (h : ∀ tk, Q v ⟨hp, gs, dr, tk, os⟩) :
    wpAny (model prog w) A (getAttr (.ref x) name expr) Q E ⟨hp, gs, dr, tk₀, os⟩ := by
  obtain ⟨f1, f2, f3, f4, f5, f6, f7, f8⟩ := hn.fact w
  exact get_slot (s := ⟨hp, gs, dr, tk₀, os⟩) (ox := msgO d sl) F X (InstAt.of_news N h1 h2) f4 (ms_set w).2.2 f5 f6 f7 f3 hv hh (h _)
end
/-- what a message's slots hold -/
def msgS (sent : Int) (t : Tok) (b : Array UInt8) (u : Tok) (wide : Bool) : Array (Option Value) := #[some (.int sent t), some (.bool false), some (.bytes b u), some (.int 0 1852), some (.bool wide), some (.bool false)]
/-- a call of the message's class -/
def NewMsg (w : World) (sent : Int) (t : Tok) (b : Array UInt8) (u : Tok) (wide : Bool) : Prop :=
  ∀ rest : Led, Ctx w rest (.ref 1163) [] [(Str.ofString "arbitration_id", .int sent t), (Str.ofString "data", .bytes b u), (Str.ofString "extended_id", .bool wide)] fun h₀ L m s Q =>
    ∀ x d h' tk', Fr h₀ L h' m → News h₀ L h' ((x, msgO d (msgS sent t b u wide)) :: (d, dictOf [] 0) :: rest) → d < x → (∀ q ∈ rest, q.1 < d) → Q (.ref x) { s with heap := h', toks := tk' }
theorem msg_end {h₀ h' : Heap} {L x d : Addr} {m : Str → Option Value} {s : Shared} {Q : Value → Shared → Prop} {rest : Led} {tk' : Nat} {sl sl₀ : Array (Option Value)}
    (hret : ∀ x d h' tk', Fr h₀ L h' m → News h₀ L h' ((x, msgO d sl) :: (d, dictOf [] 0) :: rest) → d < x → (∀ q ∈ rest, q.1 < d) → Q (.ref x) { s with heap := h', toks := tk' })
    (l1 : ∀ q ∈ rest, q.1 < d) (l2 : d < x) (F : Fr h₀ L h' m) (N : News h₀ L h' ((x, msgO d sl₀) :: (d, dictOf [] 0) :: rest)) (e : sl₀ = sl) : Q (.ref x) { s with heap := h', toks := tk' } := hret x d h' tk' F (e ▸ N) l2 l1

/-- is_for_me of an address in the ledger, on a message in the ledger -/
def ForMe (w : World) (al : List (Nat × Value)) (P : Int → Array UInt8 → Bool → Value → Prop) : Prop :=
  ∀ (p : Program) (loose : List Str) (mean : ExcName → Option Value) (mg mb : Str → Option Value) (A : Around) (env : Env) (outer : List Env) (A₀ : Around) (base h₀ : Heap) (L : Addr) (m : Str → Option Value) (s : Shared) (Q E : Value → Shared → Prop) (j : Nat) (news : Led) (x d y dy : Addr) (es : List DictEntry) (n : Nat) (sent : Int) (t : Tok) (b : Array UInt8) (u : Tok) (wide : Bool),
    Below A₀ base outer h₀ → Fr h₀ L s.heap m → (KF w.params).In h₀ → News h₀ L s.heap news → Top p loose mean mg mb h₀ → A.frames = some (env :: outer) → env.frame = some L → env.scope.kind = .function → Room A (j + 5) →
    (x, instObj 1036 d) ∈ news → (d, dictOf es n) ∈ news → Has es al → (y, msgO dy (msgS sent t b u wide)) ∈ news → (dy, dictOf [] 0) ∈ news → b.size ≤ 64 → 0 ≤ sent → sent < 536870912 →
    (∀ v h' tk', P sent b wide v → Fr h₀ L h' m → News h₀ L h' news → Q v { s with heap := h', toks := tk' }) →
    wpAny (model PySem.Challenge.rw_ff0002_01.row.prog w) A (call (.ref 918) [.ref x, .ref y]) Q E s
/-- the first octet -/
def hd (b : Array UInt8) : Option Int := b.toList.head?.map fun u => (u.toNat : Int)
section
variable {prog : Program} {w : World} {A : Around} {E : Value → Shared → Prop} {hp : Heap} {gs : Array GenState} {dr : Drawn} {tk₀ : Nat} {os : OsState} {c : UInt8} {r : List UInt8} {u : Tok}
theorem len_b {Q : Value → Shared → Prop} (hz : r.length ≤ 64) (h : ∀ t tk, Q (.int ((r.length : Int) + 1) t) ⟨hp, gs, dr, tk, os⟩) : wpAny (model prog w) A (call (.builtin "len") [.bytes ⟨c :: r⟩ u]) Q E ⟨hp, gs, dr, tk₀, os⟩ := by
  have e : (((⟨c :: r⟩ : Array UInt8).size : Nat) : Int) = (r.length : Int) + 1 := by simp
  refine len_bytes (s := ⟨hp, gs, dr, tk₀, os⟩) (by simp; omega) ?_
  rw [e]
  exact h _ _
theorem head_b {value slice : Expr} {i : Tok} {Q : Value → Shared → Prop} (hz : r.length ≤ 64) (h : ∀ t tk, Q (.int (c.toNat : Int) t) ⟨hp, gs, dr, tk, os⟩)
    (hs : subscripted slice false (.bytes ⟨c :: r⟩ u) (.int 0 i) = operate [.bytes ⟨c :: r⟩ u, .int 0 i] (getItem (.bytes ⟨c :: r⟩ u) (.int 0 i)) := by with_unfolding_all rfl) (ht : ∀ q, letTemporaryGo value (.bytes ⟨c :: r⟩ u) q = pure () := by intro _; with_unfolding_all rfl) :
    wpAny (model prog w) A (subscriptTail value slice (.bytes ⟨c :: r⟩ u) (.int 0 i)) Q E ⟨hp, gs, dr, tk₀, os⟩ :=
  KBy.item_N (s := ⟨hp, gs, dr, tk₀, os⟩) (x := c :: r) (by simp; omega) (by decide) (by simp) (h _ _) hs ht
end
theorem bp {x : Bool} {c : Prop} [Decidable c] (h : x = true ↔ c) : Value.bool x = Value.bool (decide c) := by
  congr 1
  rw [Bool.eq_iff_iff, h, decide_eq_true_eq]
theorem hd_nil : hd ⟨[]⟩ = none := rfl
theorem hd_cons {c : UInt8} {r : List UInt8} : hd ⟨c :: r⟩ = some (c.toNat : Int) := rfl

theorem any2 {ph fu x : Int} (hs : 0 ≤ x) (hs' : x < 536870912) : ([ph, fu].any fun y => y == Builtin.bitAnd x 536805376) = decide (x - x % 65536 = ph ∨ x - x % 65536 = fu) := by
  rw [and_ids hs hs', Bool.eq_iff_iff]
  simp only [List.any_cons, List.any_nil, Bool.or_false, Bool.or_eq_true, beq_iff_eq, decide_eq_true_eq]
  constructor
  · rintro (h | h)
    · exact .inl h.symm
    · exact .inr h.symm
  · rintro (h | h)
    · exact .inl h.symm
    · exact .inr h.symm
theorem src8 {x : Int} (hs : 0 ≤ x) : (Builtin.bitAnd x 65280).fdiv (2 ^ Int.toNat 8) = x / 256 % 256 := by
  rw [and_src hs, show (2 : Int) ^ Int.toNat 8 = 256 from by decide, Int.fdiv_eq_ediv_of_nonneg _ (by decide)]
  omega
/-- what a hearing address says of a message -/
def HearsP (w29 : Bool) (n1 n2 : Int) (oc : Option Int) (sent : Int) (b : Array UInt8) (wide : Bool) (v : Value) : Prop := v = .bool (decide (wide = w29 ∧ (sent = n1 ∨ sent = n2) ∧ (oc = none ∨ hd b = oc)))
theorem news_tl {h₀ h : Heap} {L : Addr} {q : Addr × Obj} {r : Led} (N : News h₀ L h (q :: r)) : News h₀ L h r := fun p hp => N p (.tail _ hp)

theorem rest_ne {rest : Led} {d a : Addr} (h : ∀ p ∈ rest, p.1 < d) (l : @LE.le Nat _ d a) : ∀ p ∈ rest, p.1 ≠ a := fun p hp e => by
  have h1 : @LT.lt Nat _ p.1 d := h p hp
  have h2 : @Eq Nat p.1 a := e
  omega
theorem up_n {x y : Str} {v z r : Option Value} (h : y ≠ x) (e : z = r) : (if y = x then v else z) = r := by rw [if_neg h]; exact e
theorem up_k {x y : Str} {v z r : Option Value} (h : (y == x) = false) (e : z = r) : (if y = x then v else z) = r := by rw [if_neg (by simpa using h)]; exact e
theorem cwKW {M : Model} {A : Around} {E : Value → Shared → Prop} {s : Shared} {KK : Frag} {h₀ : Heap} {env : Env} {pos : Pos} {f : Value} {first : List Value} {Q : Value → Shared → Prop} {e : Expr} {rest : List Expr} {kws : List Keyword} (X : KK.In h₀) (hk : keepIn KK f = true) (hall : (backToKw pos (keywordEach kws env)).all (·.1.isSome) = true)
    (hplain : ((backTo pos (starEach (e :: rest) env)).any (·.1) || (backToKw pos (keywordEach kws env)).any (·.1.isNone)) = false) (he : starEach (e :: rest) env = (false, eval e env) :: starEach rest env)
    (h : wpAny M A (spliced (backTo pos (starEach (e :: rest) env))) (fun vs s₁ => wpAny M A (evalAll ((backToKw pos (keywordEach kws env)).map (·.2)))
      (fun ks s₂ => KK.In s₂.heap ∧ wpAny M A (call f (first ++ vs) (((backToKw pos (keywordEach kws env)).filterMap (·.1)).zip ks)) Q E s₂) E s₁) E s) :
    wpAny M A (callWith pos f first (backTo pos (starEach (e :: rest) env)) (backToKw pos (keywordEach kws env))) Q E s := callWith_KW X hk hall h hplain he
theorem cwKW0 {M : Model} {A : Around} {E : Value → Shared → Prop} {s : Shared} {KK : Frag} {h₀ : Heap} {env : Env} {pos : Pos} {f : Value} {first : List Value} {Q : Value → Shared → Prop} {kws : List Keyword} (X : KK.In h₀) (hk : keepIn KK f = true) (hall : (backToKw pos (keywordEach kws env)).all (·.1.isSome) = true)
    (hplain : ((backTo pos (starEach [] env)).any (·.1) || (backToKw pos (keywordEach kws env)).any (·.1.isNone)) = false)
    (h : wpAny M A (evalAll ((backToKw pos (keywordEach kws env)).map (·.2))) (fun ks s₂ => KK.In s₂.heap ∧ wpAny M A (call f (first ++ []) (((backToKw pos (keywordEach kws env)).filterMap (·.1)).zip ks)) Q E s₂) E s) :
    wpAny M A (callWith pos f first (backTo pos (starEach [] env)) (backToKw pos (keywordEach kws env))) Q E s := callWith_KW0 X hk hall h hplain
theorem mem643 : Mem 618 643 := by simp [Mem]
theorem mem645 : Mem 618 645 := by simp [Mem]
theorem mem647 : Mem 618 647 := by simp [Mem]
theorem mem649 : Mem 618 649 := by simp [Mem]
theorem mem651 : Mem 618 651 := by simp [Mem]
theorem mem653 : Mem 618 653 := by simp [Mem]
theorem mem655 : Mem 618 655 := by simp [Mem]
theorem mem727 : Mem 702 727 := by simp [Mem]
theorem mem729 : Mem 702 729 := by simp [Mem]
def nInit : List Str := [Str.ofString "self", Str.ofString "addressing_mode", Str.ofString "txid", Str.ofString "rxid", Str.ofString "target_address", Str.ofString "source_address", Str.ofString "physical_id", Str.ofString "functional_id", Str.ofString "address_extension", Str.ofString "rx_only", Str.ofString "tx_only"]
def gInit : List Str := [Str.ofString "AddressingMode", Str.ofString "TargetAddressType"]
theorem nInit_l : ∀ y ∈ nInit, sc869.names.lookup y = some .local := by decide +kernel
theorem nInit_g : ∀ y ∈ gInit, sc869.names.lookup y = some .globalImplicit := by decide +kernel
theorem nInit_d : ∀ y ∈ nInit, (y == Str.ofString "__debug__") = false := by decide +kernel
theorem gInit_d : ∀ y ∈ gInit, (y == Str.ofString "__debug__") = false := by decide +kernel
theorem nInit_nd : nInit.Nodup := by decide +kernel
def nMsg : List Str := [Str.ofString "self", Str.ofString "arbitration_id", Str.ofString "dlc", Str.ofString "data", Str.ofString "extended_id", Str.ofString "is_fd", Str.ofString "bitrate_switch"]
def gMsg : List Str := []
theorem nMsg_l : ∀ y ∈ nMsg, sc1159.names.lookup y = some .local := by decide +kernel
theorem gMsg_g : ∀ y ∈ gMsg, sc1159.names.lookup y = some .globalImplicit := by decide +kernel
theorem nMsg_d : ∀ y ∈ nMsg, (y == Str.ofString "__debug__") = false := by decide +kernel
theorem gMsg_d : ∀ y ∈ gMsg, (y == Str.ofString "__debug__") = false := by decide +kernel
theorem nMsg_nd : nMsg.Nodup := by decide +kernel

/-! list(b), b bytes -/
section
variable {prog : Program} {w : World} {A : Around} {E : Value → Shared → Prop} {s : Shared}
theorem lob_len : typeLookup (.type "bytes") "__len__" = pure (some (.builtin "bytes.__len__")) := by rw [typeLookup_type, builtinLookup_eq_fast]; kernel_rfl
def ByteAt (b : Array UInt8) (i : Nat) (v : Value) : Prop := ∃ c u, b[i]? = some c ∧ v = .int (c.toNat : Int) u
theorem lob_extend {R : Result → Shared → Prop} (hh : A.handled = none) (b : Array UInt8) (t : Tok) (S : Addr) (res : Value) (c₀ : Nat) (hS : s.heap.get? S = some { cls := .type "list", data := .seq #[] c₀ })
    (hR : ∀ h' tk acc' c', (∀ a o, a ≠ S → s.heap.get? a = some o → h'.get? a = some o) → h'.get? S = some { cls := .type "list", dict := none, data := .seq acc' c', slots := #[] } →
      ItemsOf (ByteAt b) acc' b.size → R (.ok (.ret res)) { s with heap := h', toks := tk }) (hn : b.size ≤ sizeLine) :
    wpAny (model prog w) A.in1 (Builtin.List.listExtendWith (.ref S) (.bytes b t) res)
      (fun fin s' => match fin with | .done f => R (.ok f) s' | .again c' => c'.quiet = true ∧ codeAny (model prog w) A c' R s') (fun e s' => R (.error e) s') s := by
  have hSI : S ≠ s.heap.objs.size := Nat.ne_of_lt (Heap.lt_size hS)
  have hSf : S ∉ [s.heap.objs.size] := fun hm => hSI (List.mem_singleton.mp hm)
  unfold Builtin.List.listExtendWith
  refine wpAny_bind (wpAny_typeOf (T := "bytes") (v := .bytes b t) rfl ?_)
  have h1 : Builtin.List.listSameRef (.ref S) (.bytes b t) = false := rfl
  have h2 : (Value.type "bytes" == Value.type "list") = false := by decide
  have h3 : (Value.type "bytes" == Value.type "tuple") = false := by decide
  simp only [h1, h2, h3, Bool.or_false, Bool.false_eq_true, if_false]
  refine wpAny_bind (KBw.pyIter_bytes ?_)
  refine wpAny_bind (wpAny_holding ?_)
  unfold Builtin.List.listLengthHint
  refine wpAny_bind (wpAny_specialOf (T := "bytes") (v := .bytes b t) rfl lob_len ?_)
  wp_delta
  refine wpAny_bind (wpAny_isInstance (T := "bytes") (v := .bytes b t) (b := true) rfl (by rw [isSubtype_type]; kernel_rfl) ?_)
  show wpAny _ _ (typeOf (Value.bytes b t) >>= _) _ _ _
  refine wpAny_bind (wpAny_typeOf (T := "bytes") (v := .bytes b t) rfl ?_)
  refine wpAny_pure ?_
  rw [if_neg (by decide)]
  refine wpAny_pure ⟨plainId_quiet F.plain_extend_loop _, codeAny_extend_loopS (KBw.walks (A := A.in1) hh s.heap.objs.size b t).toS hn _ hSf _ b.size 0 _ _ _ rfl (Nat.zero_le _) ⟨_, Heap.get?_push_size _ rfl, rfl, rfl⟩ (Heap.get?_push_of_some _ hS) (ItemsOf.nil _) fun s' acc' c' hm hS' hacc => ?_⟩
  rw [Moved.eq_with hm]
  refine hR s'.heap s'.toks acc' c' (fun a ob hb e => hm.heap a ob (fun hmem => ?_) (Heap.get?_push_of_some _ e)) hS' hacc
  rcases List.mem_cons.mp hmem with e' | hmem
  · exact hb e'
  · exact absurd (Heap.lt_size e) (by rw [List.mem_singleton.mp hmem]; exact Nat.lt_irrefl _)
theorem lob_init {R : Result → Shared → Prop} (hh : A.handled = none) (b : Array UInt8) (t : Tok) (S : Addr) (hS : s.heap.get? S = some { cls := .type "list", data := .seq #[] })
    (hR : ∀ h' tk acc' c', (∀ a o, a ≠ S → s.heap.get? a = some o → h'.get? a = some o) → h'.get? S = some { cls := .type "list", dict := none, data := .seq acc' c', slots := #[] } →
      ItemsOf (ByteAt b) acc' b.size → R (.ok (.ret .none)) { s with heap := h', toks := tk }) (hn : b.size ≤ sizeLine) :
    wpAny (model prog w) A.in1 (Builtin.«list.__init__» ⟨[.ref S, .bytes b t], []⟩)
      (fun fin s' => match fin with | .done f => R (.ok f) s' | .again c' => c'.quiet = true ∧ codeAny (model prog w) A c' R s') (fun e s' => R (.error e) s') s := by
  show wpAny _ _ (do let old ← Builtin.List.listItems (.ref S); Builtin.List.listUpdate (.ref S) (fun _ => #[]); letGo old.toList.reverse; Builtin.List.listExtendWith (.ref S) (.bytes b t) .none) _ _ s
  refine wpAny_bind ?_
  unfold Builtin.List.listItems
  refine wpAny_bind (wpAny_seqItems hS rfl (wpAny_pure ?_))
  show wpAny _ _ (updateSeq S (fun _ => #[]) >>= fun _ => letGo (#[] : Array Value).toList.reverse >>= fun _ => Builtin.List.listExtendWith (.ref S) (.bytes b t) .none) _ _ s
  refine wpAny_bind (wpAny_updateSeq hS rfl ?_)
  have hS₂ := Heap.get?_update_self (Obj.mapSeq (fun _ => (#[] : Array Value))) hS rfl
  have oth : ∀ a o, a ≠ S → s.heap.get? a = some o → (s.heap.update S (Obj.mapSeq (fun _ => (#[] : Array Value)))).get? a = some o :=
    fun a o hb e => (Heap.get?_update_other _ _ (Ne.symm hb)).trans e
  refine wpAny_bind (wpAny_letGo ?_)
  refine lob_extend (hn := hn) hh b t S .none _ hS₂ fun h' tk acc' c' hk hS' hacc => ?_
  exact hR h' tk acc' c' (fun a o hb e => hk a o hb (oth a o hb e)) hS' hacc
theorem list_of_bytes {Q : Value → Shared → Prop} (hh : A.handled = none) (b : Array UInt8) (t : Tok)
    (hQ : ∀ h' tk acc' c', (∀ a o, s.heap.get? a = some o → h'.get? a = some o) →
      h'.get? s.heap.objs.size = some { cls := .type "list", dict := none, data := .seq acc' c', slots := #[] } → ItemsOf (ByteAt b) acc' b.size → Q (.ref s.heap.objs.size) { s with heap := h', toks := tk }) (hn : b.size ≤ sizeLine) :
    wpAny (model prog w) A (call (.type "list") [.bytes b t]) Q E s := by
  refine callType_codes (Q₁ := fun obj s₁ => obj = .ref s.heap.objs.size ∧ s₁ = { s with heap := s.heap.push { cls := .type "list", data := .seq #[] } }) F.called_list (F.typeCall_list_1 _) F.entry_list_init
    (code_list_new _ ⟨rfl, rfl⟩) fun obj s₁ h₁ => ?_
  obtain ⟨rfl, rfl⟩ := h₁
  have hS : (s.heap.push { cls := .type "list", data := .seq #[] }).get? s.heap.objs.size = some { cls := .type "list", data := .seq #[] } := Heap.get?_push_size _ rfl
  refine ⟨⟨_, hS, rfl⟩, F.args_list_init_2 _ _, lob_init (A := A.in1) (hn := hn) hh b t _ hS fun h' tk acc' c' hk hS' hacc => ?_⟩
  exact ⟨rfl, hQ h' tk acc' c' (fun a o e => hk a o (Nat.ne_of_lt (Heap.lt_size e)) (Heap.get?_push_of_some _ e)) hS' hacc⟩
end
section
variable {prog : Program} {w : World} {A : Around} {E : Value → Shared → Prop} {hp : Heap} {gs : Array GenState} {dr : Drawn} {tk₀ : Nat} {os : OsState} {h₀ : Heap} {L : Addr} {m : Str → Option Value} {news : Led} {t : Tok}
theorem list_nil_b {Q : Value → Shared → Prop} (hh : A.handled = none) (F : Fr h₀ L hp m) (N : News h₀ L hp news)
    (h : ∀ D c h' tk, Fr h₀ L h' m → News h₀ L h' ((D, listOf #[] c) :: news) → (∀ q ∈ news, q.1 < D) → Q (.ref D) ⟨h', gs, dr, tk, os⟩) :
    wpAny (model prog w) A (call (.type "list") [.bytes #[] t]) Q E ⟨hp, gs, dr, tk₀, os⟩ := by
  refine list_of_bytes (s := ⟨hp, gs, dr, tk₀, os⟩) hh #[] t (fun h' tk acc c hk hD ha => ?_) (by decide)
  have e : acc = #[] := Array.eq_empty_of_size_eq_zero ha.1
  subst e
  exact h _ c h' tk (F.keeps hk) (news_pushed (s := ⟨hp, gs, dr, tk₀, os⟩) F N hk hD rfl) fun q hq => Heap.lt_size (N q hq).1
theorem list_one_b {j : Int} {Q : Value → Shared → Prop} (hh : A.handled = none) (h0 : 0 ≤ j) (h1 : j ≤ 255) (F : Fr h₀ L hp m) (N : News h₀ L hp news)
    (h : ∀ D c u h' tk, Fr h₀ L h' m → News h₀ L h' ((D, listOf #[.int j u] c) :: news) → (∀ q ∈ news, q.1 < D) → Q (.ref D) ⟨h', gs, dr, tk, os⟩) :
    wpAny (model prog w) A (call (.type "list") [.bytes (oct j) t]) Q E ⟨hp, gs, dr, tk₀, os⟩ := by
  refine list_of_bytes (s := ⟨hp, gs, dr, tk₀, os⟩) hh (oct j) t (fun h' tk acc c hk hD ha => ?_) (show 1 ≤ sizeLine from by decide)
  obtain ⟨hz, hv⟩ := ha
  have hz' : acc.size = 1 := hz
  obtain ⟨b, u, e1, e2⟩ := hv 0 acc[0] (by simp [hz'])
  have e3 : b = UInt8.ofNat j.toNat := by
    have : (oct j)[0]? = some (UInt8.ofNat j.toNat) := rfl
    exact Option.some.inj (e1.symm.trans this)
  have e4 : ((b.toNat : Nat) : Int) = j := by
    rw [e3]
    simp
    omega
  rw [e4] at e2
  have e : acc = #[.int j u] := by
    apply Array.ext
    · simp [hz']
    · intro i hi hi'
      have : i = 0 := by omega
      subst this
      simpa using e2
  subst e
  exact h _ c u h' tk (F.keeps hk) (news_pushed (s := ⟨hp, gs, dr, tk₀, os⟩) F N hk hD rfl) fun q hq => Heap.lt_size (N q hq).1
end

/-- the value called gives what P tells, and what was told stands behind it as it stood; from any caller -/
def Called (w : World) (rest : Led) (k : Nat) (f : Value) (args : List Value) (P : Value → Prop) : Prop :=
  ∀ (p : Program) (loose : List Str) (mean : ExcName → Option Value) (mg mb : Str → Option Value) (A : Around) (env : Env) (outer : List Env) (A₀ : Around) (base h₀ : Heap) (L : Addr) (m : Str → Option Value) (s : Shared) (Q E : Value → Shared → Prop) (j : Nat) (led : Led),
    Below A₀ base outer h₀ → Fr h₀ L s.heap m → (KF w.params).In h₀ → News h₀ L s.heap led → (∀ q ∈ rest, q ∈ led) → Top p loose mean mg mb h₀ → A.frames = some (env :: outer) → env.frame = some L → env.scope.kind = .function → Room A (j + k) →
    (∀ v h' tk', P v → Fr h₀ L h' m → News h₀ L h' led → Q v { s with heap := h', toks := tk' }) →
    wpAny (model PySem.Challenge.rw_ff0002_01.row.prog w) A (call f args) Q E s
/-- x offers the method -/
def Off (w : World) (rest : Led) (k : Nat) (x : Addr) (name : Str) (more : List Value) (P : Value → Prop) : Prop :=
  ∃ f : Addr, keepIn (KF w.params) (.ref f) = true ∧
    (∀ (prog : Program) (A : Around) (h₀ : Heap) (L : Addr) (m : Str → Option Value) (led : Led) (s : Shared) (pl : Sem Bool) (Q : Value × List Value → Shared → Prop) (E : Value → Shared → Prop),
      Fr h₀ L s.heap m → (KF w.params).In h₀ → News h₀ L s.heap led → (∀ q ∈ rest, q ∈ led) → Q (.ref f, [.ref x]) s → wpAny (model prog w) A (getMethod (.ref x) name pl) Q E s) ∧
    Called w rest k (.ref f) (.ref x :: more) P
theorem Called.more {w : World} {rest rest' : Led} {k k' : Nat} {f : Value} {args : List Value} {P : Value → Prop} (C : Called w rest k f args P) (hs : ∀ q ∈ rest, q ∈ rest') (hk : k ≤ k') : Called w rest' k' f args P := by
  intro p loose mean mg mb A env outer A₀ base h₀ L m s Q E j led B F X N hr T hA hf hke hR hret
  exact C p loose mean mg mb A env outer A₀ base h₀ L m s Q E (j + (k' - k)) led B F X N (fun q hq => hr q (hs q hq)) T hA hf hke (by rw [show j + (k' - k) + k = j + k' from by omega]; exact hR) hret
theorem Off.more {w : World} {rest rest' : Led} {k k' : Nat} {x : Addr} {name : Str} {more : List Value} {P : Value → Prop} (O : Off w rest k x name more P) (hs : ∀ q ∈ rest, q ∈ rest') (hk : k ≤ k') : Off w rest' k' x name more P := by
  obtain ⟨f, e, g, c⟩ := O
  exact ⟨f, e, fun prog A h₀ L m led s pl Q E F X N hr => g prog A h₀ L m led s pl Q E F X N fun q hq => hr q (hs q hq), c.more hs hk⟩
theorem Off.of_meth {w : World} {rest : Led} {x d f : Addr} {es : List DictEntry} {n i : Nat} {al : List (Nat × Value)} {name : Str} {more : List Value} {P : Value → Prop}
    (h1 : (x, instObj 1036 d) ∈ rest) (h2 : (d, dictOf es n) ∈ rest) (H : Has es al) (hn : Mt name i f) (no : ∀ i, 20 ≤ i → al.lookup i = none) (hi : Nat.ble 20 i = true) (c : Meth w al f more P) : Off w rest 4 x name more P :=
  ⟨f, hn.keep w, fun prog A h₀ L m led s pl Q E F X N hr hq => meth F X N (hr _ h1) (hr _ h2) H hn (noAt no hi) hq,
    fun p loose mean mg mb A env outer A₀ base h₀ L m s Q E j led B F X N hr T hA hf hke hR hret => c p loose mean mg mb A env outer A₀ base h₀ L m s Q E j led x d es n B F X N T hA hf hke hR (hr _ h1) (hr _ h2) H hret⟩
def IsI (n : Int) (v : Value) : Prop := ∃ t, v = .int n t
def IsO : Option Int → Value → Prop
  | none, v => v = .none
  | some j, v => ∃ t, v = .int j t
def octs : Option Int → Array UInt8
  | none => #[]
  | some j => oct j
def IsB (b : Array UInt8) (v : Value) : Prop := ∃ t, v = .bytes b t
/-- x hears messages -/
def OffM (w : World) (rest : Led) (k : Nat) (x : Addr) (P : Int → Array UInt8 → Bool → Value → Prop) : Prop :=
  ∀ (y dy : Addr) (sent : Int) (t : Tok) (b : Array UInt8) (u : Tok) (wide : Bool), b.size ≤ 64 → 0 ≤ sent → sent < 536870912 →
    Off w ((y, msgO dy (msgS sent t b u wide)) :: (dy, dictOf [] 0) :: rest) k x (Str.ofString "is_for_me") [.ref y] (P sent b wide)
/-- x stands as an object -/
def Inst (C : Addr) (rest : Led) (x : Addr) : Prop := ∃ d es n, (x, instObj C d) ∈ rest ∧ (d, dictOf es n) ∈ rest
structure TxOf (w : World) (rest : Led) (k : Nat) (x : Addr) (wide : Bool) (n1 n2 : Int) (o : Option Int) : Prop where
  get : Off w rest k x (Str.ofString "get_tx_arbitration_id") [] (IsI n1)
  getP : Off w rest k x (Str.ofString "get_tx_arbitration_id") [.ref 727] (IsI n1)
  getF : Off w rest k x (Str.ofString "get_tx_arbitration_id") [.ref 729] (IsI n2)
  pfx : Off w rest k x (Str.ofString "get_tx_payload_prefix") [] (IsB (octs o))
  w29 : Off w rest k x (Str.ofString "is_tx_29bits") [] (fun v => v = .bool wide)
  req : Off w rest k x (Str.ofString "requires_tx_extension_byte") [] (fun v => v = .bool o.isSome)
  ext : Off w rest k x (Str.ofString "get_tx_extension_byte") [] (IsO o)
structure RxOf (w : World) (rest : Led) (k : Nat) (x : Addr) (wide : Bool) (n1 n2 : Int) (o : Option Int) : Prop where
  get : Off w rest k x (Str.ofString "get_rx_arbitration_id") [] (IsI n1)
  getP : Off w rest k x (Str.ofString "get_rx_arbitration_id") [.ref 727] (IsI n1)
  getF : Off w rest k x (Str.ofString "get_rx_arbitration_id") [.ref 729] (IsI n2)
  psz : Off w rest k x (Str.ofString "get_rx_prefix_size") [] (IsI (if o.isSome then 1 else 0))
  w29 : Off w rest k x (Str.ofString "is_rx_29bits") [] (fun v => v = .bool wide)
  req : Off w rest k x (Str.ofString "requires_rx_extension_byte") [] (fun v => v = .bool o.isSome)
  ext : Off w rest k x (Str.ofString "get_rx_extension_byte") [] (IsO o)
  me : OffM w rest k x (HearsP wide n1 n2 o)
theorem TxOf.more {w : World} {rest rest' : Led} {k k' : Nat} {x : Addr} {wide : Bool} {n1 n2 : Int} {o : Option Int} (T : TxOf w rest k x wide n1 n2 o) (hs : ∀ q ∈ rest, q ∈ rest') (hk : k ≤ k') : TxOf w rest' k' x wide n1 n2 o :=
  ⟨T.get.more hs hk, T.getP.more hs hk, T.getF.more hs hk, T.pfx.more hs hk, T.w29.more hs hk, T.req.more hs hk, T.ext.more hs hk⟩
theorem OffM.more {w : World} {rest rest' : Led} {k k' : Nat} {x : Addr} {P : Int → Array UInt8 → Bool → Value → Prop} (O : OffM w rest k x P) (hs : ∀ q ∈ rest, q ∈ rest') (hk : k ≤ k') : OffM w rest' k' x P :=
  fun y dy sent t b u wide hb h0 h1 => (O y dy sent t b u wide hb h0 h1).more (fun q hq => by
    rcases List.mem_cons.mp hq with rfl | hq
    · exact .head _
    rcases List.mem_cons.mp hq with rfl | hq
    · exact .tail _ (.head _)
    · exact .tail _ (.tail _ (hs q hq))) hk
theorem RxOf.more {w : World} {rest rest' : Led} {k k' : Nat} {x : Addr} {wide : Bool} {n1 n2 : Int} {o : Option Int} (T : RxOf w rest k x wide n1 n2 o) (hs : ∀ q ∈ rest, q ∈ rest') (hk : k ≤ k') : RxOf w rest' k' x wide n1 n2 o :=
  ⟨T.get.more hs hk, T.getP.more hs hk, T.getF.more hs hk, T.psz.more hs hk, T.w29.more hs hk, T.req.more hs hk, T.ext.more hs hk, T.me.more hs hk⟩
theorem Off.of_for {w : World} {rest : Led} {x d : Addr} {es : List DictEntry} {n : Nat} {al : List (Nat × Value)} {P : Int → Array UInt8 → Bool → Value → Prop}
    (h1 : (x, instObj 1036 d) ∈ rest) (h2 : (d, dictOf es n) ∈ rest) (H : Has es al) (no : ∀ i, 20 ≤ i → al.lookup i = none) (c : ForMe w al P) : OffM w rest 5 x P :=
  fun y dy sent t b u wide hb hs0 hs1 => ⟨918, (Mt.m26).keep w, fun prog A h₀ L m led s pl Q E F X N hr hq => meth F X N (hr _ (.tail _ (.tail _ h1))) (hr _ (.tail _ (.tail _ h2))) H .m26 (noAt no rfl) hq,
    fun p loose mean mg mb A env outer A₀ base h₀ L m s Q E j led B F X N hr T hA hf hke hR hret => c p loose mean mg mb A env outer A₀ base h₀ L m s Q E j led x d y dy es n sent t b u wide B F X N T hA hf hke hR (hr _ (.tail _ (.tail _ h1))) (hr _ (.tail _ (.tail _ h2))) H (hr _ (.head _)) (hr _ (.tail _ (.head _))) hb hs0 hs1 hret⟩
theorem Off.weak {w : World} {rest : Led} {k : Nat} {x : Addr} {name : Str} {more : List Value} {P P' : Value → Prop} (O : Off w rest k x name more P) (h : ∀ v, P v → P' v) : Off w rest k x name more P' := by
  obtain ⟨f, e, g, c⟩ := O
  exact ⟨f, e, g, fun p loose mean mg mb A env outer A₀ base h₀ L m s Q E j led B F X N hr T hA hf hke hR hret => c p loose mean mg mb A env outer A₀ base h₀ L m s Q E j led B F X N hr T hA hf hke hR fun v h' tk' hp => hret v h' tk' (h v hp)⟩

theorem sub2 {a b : Addr × Obj} {rest led : Led} (h1 : a ∈ led) (h2 : b ∈ led) (h : ∀ q ∈ rest, q ∈ led) : ∀ q ∈ a :: b :: rest, q ∈ led := by
  intro q hq
  rcases List.mem_cons.mp hq with rfl | hq
  · exact h1
  rcases List.mem_cons.mp hq with rfl | hq
  · exact h2
  exact h q hq
section
variable {w : World} {A A₀ : Around} {E : Value → Shared → Prop} {hp : Heap} {gs : Array GenState} {dr : Drawn} {tk₀ : Nat} {os : OsState} {h₀ base : Heap} {L a x dx xs xr : Addr} {m mg mb : Str → Option Value} {cn : Str} {cs : Scope} {ccd : Value} {p : Program} {loose : List Str} {mean : ExcName → Option Value} {env : Env} {outer : List Env} {led rest : Led} {k j : Nat} {name : Str} {P : Value → Prop} {es : List DictEntry} {n : Nat}
/-- the methods of an AsymmetricAddress and where they lie -/
inductive At : Str → Addr → Prop
  | txExt : At (Str.ofString "get_tx_extension_byte") 1059
  | rxExt : At (Str.ofString "get_rx_extension_byte") 1066
  | me : At (Str.ofString "is_for_me") 1073
  | getTx : At (Str.ofString "get_tx_arbitration_id") 1081
  | getRx : At (Str.ofString "get_rx_arbitration_id") 1089
  | tx29 : At (Str.ofString "is_tx_29bits") 1096
  | rx29 : At (Str.ofString "is_rx_29bits") 1103
  | reqTx : At (Str.ofString "requires_tx_extension_byte") 1110
  | reqRx : At (Str.ofString "requires_rx_extension_byte") 1117
  | psz : At (Str.ofString "get_rx_prefix_size") 1124
  | pfx : At (Str.ofString "get_tx_payload_prefix") 1131
  | part : At (Str.ofString "is_partial_address") 1138
theorem At.own (w : World) {x : Str} {f : Addr} (h : At x f) : plainGet (KF w.params) 1141 x = true ∧ findIn (KF w.params) (.ref 1141) x = some (some (.ref f)) ∧ isFn (KF w.params) (.ref f) = true ∧ keepIn (KF w.params) (.ref f) = true := by
  cases h <;> exact ⟨by kernel_rfl, by kernel_rfl, by kernel_rfl, by kernel_rfl⟩
inductive An : Str → Prop
  | tx : An (Str.ofString "tx_addr")
  | rx : An (Str.ofString "rx_addr")
theorem An.own (w : World) {x : Str} (h : An x) : plainGet (KF w.params) 1141 x = true ∧ hasDictIn (KF w.params) 1141 = true ∧ findIn (KF w.params) (.ref 1141) x = some none ∧ takerIn (KF w.params) 1141 x = some none := by
  cases h <;> exact ⟨by kernel_rfl, by kernel_rfl, by kernel_rfl, by kernel_rfl⟩
structure HasA (es : List DictEntry) (xs xr : Addr) : Prop where
  tx : getL (Str.ofString "tx_addr") es = some (some (.ref xs))
  rx : getL (Str.ofString "rx_addr") es = some (some (.ref xr))
  no : ∀ y f, At y f → getL y es = some none
/-- self.tx_addr, self.rx_addr -/
theorem rdA {v : Value} {p₁ p₂ : Pos} {Q : Value → Shared → Prop} (F : Fr h₀ L hp m) (X : (KF w.params).In h₀) (N : News h₀ L hp led) (h1 : (x, instObj 1141 dx) ∈ led) (h2 : (dx, dictOf es n) ∈ led) (hn : An name) (hg : getL name es = some (some v)) (hv : handedIn v = true)
    (hm : m (Str.ofString "self") = some (.ref x)) (h : ∀ tk, Q v ⟨hp, gs, dr, tk, os⟩)
    (hk : cs.kind = .function := by rfl) (hx : (envX cn cs L a ccd []).kindOf (Str.ofString "self") = some .local := by rfl) :
    wpAny (model PySem.Challenge.rw_ff0002_01.row.prog w) A (eval (.Attribute (.Name (Str.ofString "self") p₁) name p₂) (envOf cn cs L a ccd)) Q E ⟨hp, gs, dr, tk₀, os⟩ :=
  Attribute_name (nameX_L (s := ⟨hp, gs, dr, tk₀, os⟩) F hm (get_own (s := ⟨hp, gs, dr, tk₀, os⟩) F X (InstAt.of_news N h1 h2) (hn.own w).1 (hn.own w).2.1 (hn.own w).2.2.1 (by rfl) hg hv (h _)) hk hx)
/-- e.name(), e's object offers the method -/
theorem offE0 {pl : Sem Bool} {e : Expr} {p₂ p₃ : Pos} {Q : Value → Shared → Prop} (O : Off w rest k x name [] P) (hs : ∀ q ∈ rest, q ∈ led) (B : Below A₀ base outer h₀) (F : Fr h₀ L hp m) (X : (KF w.params).In h₀) (N : News h₀ L hp led) (T : Top p loose mean mg mb h₀) (hA : A.frames = some (env :: outer)) (hf : env.frame = some L) (hke : env.scope.kind = .function) (R : Room A (j + k))
    (hev : ∀ Q' : Value → Shared → Prop, (∀ tk, Q' (.ref x) ⟨hp, gs, dr, tk, os⟩) → wpAny (model PySem.Challenge.rw_ff0002_01.row.prog w) A (eval e (envOf cn cs L a ccd)) Q' E ⟨hp, gs, dr, tk₀, os⟩)
    (h : ∀ v h' tk', P v → Fr h₀ L h' m → News h₀ L h' led → Q v ⟨h', gs, dr, tk', os⟩)
    (he : eval (.Call (.Attribute e name p₂) [] [] p₃) (envOf cn cs L a ccd) = (do
      let ov ← eval e (envOf cn cs L a ccd)
      standAt p₂.atName
      let (f, first) ← holding [ov] (getMethod ov name pl)
      callWith p₃ f first (backTo p₃ (starEach [] (envOf cn cs L a ccd))) [])) :
    wpAny (model PySem.Challenge.rw_ff0002_01.row.prog w) A (eval (.Call (.Attribute e name p₂) [] [] p₃) (envOf cn cs L a ccd)) Q E ⟨hp, gs, dr, tk₀, os⟩ := by
  obtain ⟨f, e1, g, c⟩ := O
  refine MethodCall_ (hev _ fun tk => ?_) he
  refine g _ _ _ _ _ _ ⟨hp, gs, dr, tk, os⟩ _ _ _ F X N hs ?_
  exact callWith_K0 (X.keeps F.keep) e1 (c p loose mean mg mb A env outer A₀ base h₀ L m ⟨hp, gs, dr, tk, os⟩ Q E j led B F X N hs T hA hf hke R fun v h' tk' hp' F' N' => h v h' tk' hp' F' N')
/-- e.name(Enum.member) -/
theorem offE1e {pl : Sem Bool} {e : Expr} {c nm : Str} {C b : Addr} {p₂ p₃ p₄ p₅ : Pos} {Q : Value → Shared → Prop} (O : Off w rest k x name [.ref b] P) (en' : En c C nm b) (hs : ∀ q ∈ rest, q ∈ led) (B : Below A₀ base outer h₀) (F : Fr h₀ L hp m) (X : (KF w.params).In h₀) (N : News h₀ L hp led) (T : Top p loose mean mg mb h₀) (hA : A.frames = some (env :: outer)) (hf : env.frame = some L) (hke : env.scope.kind = .function) (R : Room A (j + k))
    (hev : ∀ Q' : Value → Shared → Prop, (∀ tk, Q' (.ref x) ⟨hp, gs, dr, tk, os⟩) → wpAny (model PySem.Challenge.rw_ff0002_01.row.prog w) A (eval e (envOf cn cs L a ccd)) Q' E ⟨hp, gs, dr, tk₀, os⟩)
    (h : ∀ v h' tk', P v → Fr h₀ L h' m → News h₀ L h' led → Q v ⟨h', gs, dr, tk', os⟩)
    (hk : cs.kind = .function) (hx' : (envX cn cs L a ccd []).kindOf c = some .globalImplicit) (hd' : (c == ("__debug__" : Str)) = false)
    (he : eval (.Call (.Attribute e name p₂) [.Attribute (.Name c p₄) nm p₅] [] p₃) (envOf cn cs L a ccd) = (do
      let ov ← eval e (envOf cn cs L a ccd)
      standAt p₂.atName
      let (f, first) ← holding [ov] (getMethod ov name pl)
      callWith p₃ f first (backTo p₃ (starEach [.Attribute (.Name c p₄) nm p₅] (envOf cn cs L a ccd))) [])) :
    wpAny (model PySem.Challenge.rw_ff0002_01.row.prog w) A (eval (.Call (.Attribute e name p₂) [.Attribute (.Name c p₄) nm p₅] [] p₃) (envOf cn cs L a ccd)) Q E ⟨hp, gs, dr, tk₀, os⟩ := by
  obtain ⟨f, e1, g, cc⟩ := O
  refine MethodCall_ (hev _ fun tk => ?_) he
  refine g _ _ _ _ _ _ ⟨hp, gs, dr, tk, os⟩ _ _ _ F X N hs ?_
  exact callWith_K X e1 (spliced_more (en (s := ⟨hp, gs, dr, tk, os⟩) F X T en' (spliced_none ⟨X.keeps F.keep, cc p loose mean mg mb A env outer A₀ base h₀ L m ⟨hp, gs, dr, tk + 1, os⟩ Q E j led B F X N hs T hA hf hke R fun v h' tk' hp' F' N' => h v h' tk' hp' F' N'⟩) hk hx' hd'))
/-- e.name(z) -/
theorem offE1 {pl : Sem Bool} {e : Expr} {z : Str} {u : Value} {p₂ p₃ p₄ : Pos} {Q : Value → Shared → Prop} (O : Off w rest k x name [u] P) (hs : ∀ q ∈ rest, q ∈ led) (B : Below A₀ base outer h₀) (F : Fr h₀ L hp m) (X : (KF w.params).In h₀) (N : News h₀ L hp led) (T : Top p loose mean mg mb h₀) (hA : A.frames = some (env :: outer)) (hf : env.frame = some L) (hke : env.scope.kind = .function) (R : Room A (j + k))
    (hev : ∀ Q' : Value → Shared → Prop, (∀ tk, Q' (.ref x) ⟨hp, gs, dr, tk, os⟩) → wpAny (model PySem.Challenge.rw_ff0002_01.row.prog w) A (eval e (envOf cn cs L a ccd)) Q' E ⟨hp, gs, dr, tk₀, os⟩)
    (hz : m z = some u) (h : ∀ v h' tk', P v → Fr h₀ L h' m → News h₀ L h' led → Q v ⟨h', gs, dr, tk', os⟩)
    (hk : cs.kind = .function) (hx' : (envX cn cs L a ccd []).kindOf z = some .local) (hd' : (z == ("__debug__" : Str)) = false)
    (he : eval (.Call (.Attribute e name p₂) [.Name z p₄] [] p₃) (envOf cn cs L a ccd) = (do
      let ov ← eval e (envOf cn cs L a ccd)
      standAt p₂.atName
      let (f, first) ← holding [ov] (getMethod ov name pl)
      callWith p₃ f first (backTo p₃ (starEach [.Name z p₄] (envOf cn cs L a ccd))) [])) :
    wpAny (model PySem.Challenge.rw_ff0002_01.row.prog w) A (eval (.Call (.Attribute e name p₂) [.Name z p₄] [] p₃) (envOf cn cs L a ccd)) Q E ⟨hp, gs, dr, tk₀, os⟩ := by
  obtain ⟨f, e1, g, cc⟩ := O
  refine MethodCall_ (hev _ fun tk => ?_) he
  refine g _ _ _ _ _ _ ⟨hp, gs, dr, tk, os⟩ _ _ _ F X N hs ?_
  exact callWith_K X e1 (spliced_more (nameX_L (s := ⟨hp, gs, dr, tk, os⟩) F hz (spliced_none ⟨X.keeps F.keep, cc p loose mean mg mb A env outer A₀ base h₀ L m ⟨hp, gs, dr, tk, os⟩ Q E j led B F X N hs T hA hf hke R fun v h' tk' hp' F' N' => h v h' tk' hp' F' N'⟩) hk hx' hd'))
/-- a name as the object -/
theorem evName {y : Str} {p₁ : Pos} {v : Value} (F : Fr h₀ L hp m) (hm : m y = some v) (hk : cs.kind = .function) (hx : (envX cn cs L a ccd []).kindOf y = some .local) (hd : (y == ("__debug__" : Str)) = false) :
    ∀ Q' : Value → Shared → Prop, (∀ tk, Q' v ⟨hp, gs, dr, tk, os⟩) → wpAny (model PySem.Challenge.rw_ff0002_01.row.prog w) A (eval (.Name y p₁) (envOf cn cs L a ccd)) Q' E ⟨hp, gs, dr, tk₀, os⟩ :=
  fun _ h => nameX_L (s := ⟨hp, gs, dr, tk₀, os⟩) F hm (h _) hk hx hd
theorem evA {v : Value} {p₁ p₂ : Pos} (F : Fr h₀ L hp m) (X : (KF w.params).In h₀) (N : News h₀ L hp led) (h1 : (x, instObj 1141 dx) ∈ led) (h2 : (dx, dictOf es n) ∈ led) (hn : An name) (hg : getL name es = some (some v)) (hv : handedIn v = true)
    (hm : m (Str.ofString "self") = some (.ref x)) (hk : cs.kind = .function) (hx : (envX cn cs L a ccd []).kindOf (Str.ofString "self") = some .local) :
    ∀ Q' : Value → Shared → Prop, (∀ tk, Q' v ⟨hp, gs, dr, tk, os⟩) → wpAny (model PySem.Challenge.rw_ff0002_01.row.prog w) A (eval (.Attribute (.Name (Str.ofString "self") p₁) name p₂) (envOf cn cs L a ccd)) Q' E ⟨hp, gs, dr, tk₀, os⟩ :=
  fun _ h => rdA F X N h1 h2 hn hg hv hm h hk hx
end

/-- a call of AsymmetricAddress -/
def NewAsym (w : World) (rest : Led) (xs xr : Addr) : Prop :=
  Ctx w rest (.ref 1141) [.ref xs, .ref xr] [] fun h₀ L m s Q =>
    ∀ x d es n h' tk', Fr h₀ L h' m → News h₀ L h' ((x, instObj 1141 d) :: (d, dictOf es n) :: rest) → HasA es xs xr → d < x → (∀ q ∈ rest, q.1 < d) → Q (.ref x) { s with heap := h', toks := tk' }
theorem asym_end {h₀ h' : Heap} {L x d xs xr : Addr} {m : Str → Option Value} {s : Shared} {Q : Value → Shared → Prop} {rest : Led} {es : List DictEntry} {n tk' : Nat}
    (hret : ∀ x d es n h' tk', Fr h₀ L h' m → News h₀ L h' ((x, instObj 1141 d) :: (d, dictOf es n) :: rest) → HasA es xs xr → d < x → (∀ q ∈ rest, q.1 < d) → Q (.ref x) { s with heap := h', toks := tk' })
    (l1 : ∀ q ∈ rest, q.1 < d) (l2 : d < x) (F : Fr h₀ L h' m) (N : News h₀ L h' ((x, instObj 1141 d) :: (d, dictOf es n) :: rest)) (H : HasA es xs xr) : Q (.ref x) { s with heap := h', toks := tk' } := hret x d es n h' tk' F N H l2 l1

section
local macro_rules | `(tactic| walk_at "eval Attribute Name") => `(tactic| (k_here; (with_reducible show wpAny _ _ (eval (Expr.Attribute (Expr.Name (Str.ofString "self") _) _ _) _) _ _ _); refine' rd' ?k1 ?k2 ?k3 ?k4 ?k5 ?k6 ?k7 ?k8 ?k9 ?kh ?_ ?ka ?kb; k_dflt ((case k1 => k_asm); (case k2 => k_asm); (case k3 => k_asm); (case ka => exact rfl); (case kb => first | with_reducible assumption | kernel_rfl); (case k7 => first | with_reducible assumption | (repeat' (first | with_reducible exact up_eq | with_reducible refine up_k (by kernel_rfl) ?_ | with_reducible assumption))); (case k4 => k_mem); (case k5 => k_mem); (case k6 => k_asm); (case k8 => with_reducible constructor); (case k9 => first | with_reducible assumption | exact rfl); (case kh => first | with_reducible assumption | kernel_rfl); k_whole); intro tk'))
local macro_rules | `(tactic| walk_at "eval Attribute Name") => `(tactic| (k_here; (with_reducible show wpAny _ _ (eval (Expr.Attribute (Expr.Name (Str.ofString "AddressingMode") _) _ _) _) _ _ _); refine' en' ?k1 ?k2 ?k3 ?k4 ?_ ?ka ?kb ?kc; k_dflt ((case k4 => with_reducible constructor); (case k1 => k_asm); (case k2 => k_asm); (case k3 => k_asm); (case ka => exact rfl); (case kb => first | with_reducible assumption | kernel_rfl); (case kc => first | with_reducible assumption | kernel_rfl); k_whole); intro tk'))
local macro_rules | `(tactic| walk_at "eval Attribute Name") => `(tactic| (k_here; (with_reducible show wpAny _ _ (eval (Expr.Attribute (Expr.Name (Str.ofString "TargetAddressType") _) _ _) _) _ _ _); refine' en' ?k1 ?k2 ?k3 ?k4 ?_ ?ka ?kb ?kc; k_dflt ((case k4 => with_reducible constructor); (case k1 => k_asm); (case k2 => k_asm); (case k3 => k_asm); (case ka => exact rfl); (case kb => first | with_reducible assumption | kernel_rfl); (case kc => first | with_reducible assumption | kernel_rfl); k_whole); intro tk'))
local macro_rules | `(tactic| walk_at "eval Name") => `(tactic| (k_here; refine' nmL ?k1 ?k2 ?_ ?ka ?kb ?kc; k_dflt ((case k1 => k_asm); (case k2 => first | with_reducible assumption | (repeat' (first | with_reducible exact up_eq | with_reducible refine up_k (by kernel_rfl) ?_ | with_reducible assumption))); (case ka => exact rfl); (case kb => first | with_reducible assumption | kernel_rfl); (case kc => first | with_reducible assumption | kernel_rfl); k_whole)))
local macro_rules | `(tactic| walk_at "eval Name") => `(tactic| (k_here; refine' nb' ?k1 ?k2 ?k3 ?k4 ?_ ?ka ?kb; k_dflt ((case k4 => with_reducible constructor); (case k1 => k_asm); (case k2 => k_asm); (case k3 => k_asm); (case ka => exact rfl); (case kb => first | with_reducible assumption | kernel_rfl); k_whole)))
local macro_rules | `(tactic| walk_at "setAttr ref") => `(tactic| (k_here; refine' sa' ?k1 ?k2 ?k3 ?k4 ?k5 ?k6 ?k7 ?k8 ?_; k_dflt ((case k1 => k_asm); (case k2 => k_asm); (case k3 => k_asm); (case k4 => first | with_reducible assumption | (repeat' (first | with_reducible exact up_eq | with_reducible refine up_k (by kernel_rfl) ?_ | with_reducible assumption))); (case k5 => first | with_reducible assumption | (repeat' (first | with_reducible exact up_eq | with_reducible refine up_k (by kernel_rfl) ?_ | with_reducible assumption))); (case k6 => k_asm); (case k7 => exact Nat.le_of_ble_eq_true rfl); (case k8 => with_reducible constructor); k_whole); intro h' es' n' tk' F' N' H'; k_sweep))
local macro_rules | `(tactic| walk_at "exec Assign cons Name") => `(tactic| (k_here; (with_reducible show wpAny _ _ (exec (Stmt.Assign [Expr.Attribute (Expr.Name (Str.ofString "self") _) _ _] (Expr.Name _ _) _) _) _ _ _); refine' asn' ?k1 ?k2 ?k3 ?k4 ?k5 ?k6 ?k7 ?k8 ?k9 ?k10 ?_ ?ka ?kb ?kc ?kd ?ke; k_dflt ((case k1 => k_asm); (case k2 => k_asm); (case k3 => k_asm); (case k4 => first | with_reducible assumption | (repeat' (first | with_reducible exact up_eq | with_reducible refine up_k (by kernel_rfl) ?_ | with_reducible assumption))); (case k5 => first | with_reducible assumption | (repeat' (first | with_reducible exact up_eq | with_reducible refine up_k (by kernel_rfl) ?_ | with_reducible assumption))); (case k6 => k_asm); (case k7 => exact Nat.le_of_ble_eq_true rfl); (case k8 => first | with_reducible assumption | (repeat' (first | with_reducible exact up_eq | with_reducible refine up_k (by kernel_rfl) ?_ | with_reducible assumption))); (case k9 => first | with_reducible assumption | (repeat' (first | with_reducible exact up_eq | with_reducible refine up_k (by kernel_rfl) ?_ | with_reducible assumption))); (case k10 => with_reducible constructor); (case ka => exact rfl); (case kb => first | with_reducible assumption | kernel_rfl); (case kc => first | with_reducible assumption | kernel_rfl); (case kd => first | with_reducible assumption | kernel_rfl); (case ke => exact rfl); k_whole); intro h' es' n' tk' F' N' H'; k_sweep))
local macro_rules | `(tactic| walk_at "exec Assign cons IfExp") => `(tactic| ((with_reducible show wpAny _ _ (exec (Stmt.Assign [Expr.Attribute (Expr.Name (Str.ofString "self") _) _ _] _ _) _) _ _ _); with_reducible refine plainObj_wpAny_Assign_Attribute ?_ ?_; rotate_left; with_unfolding_all rfl))
local macro_rules | `(tactic| walk_at "exec Assign cons BinOp") => `(tactic| ((with_reducible show wpAny _ _ (exec (Stmt.Assign [Expr.Attribute (Expr.Name (Str.ofString "self") _) _ _] _ _) _) _ _ _); with_reducible refine plainObj_wpAny_Assign_Attribute ?_ ?_; rotate_left; with_unfolding_all rfl))
local macro_rules | `(tactic| walk_at "exec Assign cons Call") => `(tactic| ((with_reducible show wpAny _ _ (exec (Stmt.Assign [Expr.Attribute (Expr.Name (Str.ofString "self") _) _ _] _ _) _) _ _ _); with_reducible refine plainObj_wpAny_Assign_Attribute ?_ ?_; rotate_left; with_unfolding_all rfl))
local macro_rules | `(tactic| walk_at "exec Assign cons Constant") => `(tactic| ((with_reducible show wpAny _ _ (exec (Stmt.Assign [Expr.Attribute (Expr.Name (Str.ofString "self") _) _ _] _ _) _) _ _ _); with_reducible refine plainObj_wpAny_Assign_Attribute ?_ ?_; rotate_left; with_unfolding_all rfl))
local macro_rules | `(tactic| walk_at "exec Assign cons Attribute") => `(tactic| ((with_reducible show wpAny _ _ (exec (Stmt.Assign [Expr.Attribute (Expr.Name (Str.ofString "self") _) _ _] _ _) _) _ _ _); with_reducible refine plainObj_wpAny_Assign_Attribute ?_ ?_; rotate_left; with_unfolding_all rfl))
local macro_rules | `(tactic| walk_at "setAttr ref") => `(tactic| (k_here; refine' sam ?k1 ?k2 ?k3 ?k4 ?k5 ?k6 ?k7 ?_; k_dflt ((case k1 => k_asm); (case k2 => k_asm); (case k3 => k_asm); (case k4 => first | with_reducible assumption | (repeat' (first | with_reducible exact up_eq | with_reducible refine up_k (by kernel_rfl) ?_ | with_reducible assumption))); (case k5 => first | with_reducible assumption | (repeat' (first | with_reducible exact up_eq | with_reducible refine up_k (by kernel_rfl) ?_ | with_reducible assumption))); (case k6 => with_reducible constructor); (case k7 => exact rfl); k_whole); intro h' tk' F' N'; k_sweep))
local macro_rules | `(tactic| walk_at "getAttr ref") => `(tactic| (k_here; refine' rdm ?k1 ?k2 ?k3 ?k4 ?k5 ?k6 ?k7 ?k8 ?_; k_dflt ((case k1 => k_asm); (case k2 => k_asm); (case k3 => k_asm); (case k6 => with_reducible constructor); (case k4 => k_mem); (case k5 => k_mem); (case k7 => first | with_reducible assumption | exact rfl); (case k8 => first | with_reducible assumption | exact rfl); k_whole); intro tk'))
local macro_rules | `(tactic| walk_at "call builtin:len") => `(tactic| (k_here; (with_reducible show wpAny _ _ (call (Value.builtin "len") [Value.bytes _ _]) _ _ _); refine' len_b ?k1 ?_; k_dflt ((case k1 => assumption); k_whole); intro t' tk'))
local macro_rules | `(tactic| walk_at "subscriptTail") => `(tactic| (k_here; (with_reducible show wpAny _ _ (subscriptTail _ _ (Value.bytes _ _) (Value.int _ _)) _ _ _); refine' head_b ?k1 ?_ ?k2 ?k3; k_dflt ((case k1 => assumption); (case k2 => with_unfolding_all rfl); (case k3 => intro _; with_unfolding_all rfl); k_whole); intro t' tk'))
local macro_rules | `(tactic| walk_at "isTrue Compare Attribute cons cons") => `(tactic| (k_here; (with_reducible show wpAny _ _ (isTrue (Expr.Compare (Expr.Attribute (Expr.Name (Str.ofString "self") _) _ _) [CmpOp.In] [Expr.List _ _] _) _ _) _ _ _); refine' isIn' ?k1 ?k2 ?k3 ?k4 ?k5 ?k6 ?k7 ?k8 ?k9 ?k10 ?k11 ?k12 ?k13 ?k14 ?k15 ?_ ?ka ?kb ?kc ?kd; k_dflt ((case k13 => repeat' (with_reducible constructor)); (case k1 => k_asm); (case k2 => k_asm); (case k3 => k_asm); (case k4 => k_asm); (case ka => exact rfl); (case kb => first | with_reducible assumption | kernel_rfl); (case kc => first | with_reducible assumption | kernel_rfl); (case kd => exact rfl); (case k9 => first | with_reducible assumption | (repeat' (first | with_reducible exact up_eq | with_reducible refine up_k (by kernel_rfl) ?_ | with_reducible assumption))); (case k5 => k_mem); (case k6 => k_mem); (case k7 => k_asm); (case k8 => exact Room.u8 (by assumption) rfl); (case k10 => with_reducible constructor); (case k11 => first | with_reducible assumption | exact rfl); (case k12 => first | assumption | exact mem643 | exact mem645 | exact mem647 | exact mem649 | exact mem651 | exact mem653 | exact mem655); (case k14 => first | exact Eq.refl false | exact Eq.refl true); (case k15 => exact Nat.le_of_ble_eq_true rfl); k_whole); intro h' tk' F' N'; k_sweep))
local macro_rules | `(tactic| walk_at "isTrue Compare Attribute cons cons") => `(tactic| (k_here; (with_reducible show wpAny _ _ (isTrue (Expr.Compare (Expr.Attribute (Expr.Name (Str.ofString "self") _) _ _) [CmpOp.NotIn] [Expr.List _ _] _) _ _) _ _ _); refine' isNotIn' ?k1 ?k2 ?k3 ?k4 ?k5 ?k6 ?k7 ?k8 ?k9 ?k10 ?k11 ?k12 ?k13 ?k14 ?k15 ?_ ?ka ?kb ?kc ?kd; k_dflt ((case k13 => repeat' (with_reducible constructor)); (case k1 => k_asm); (case k2 => k_asm); (case k3 => k_asm); (case k4 => k_asm); (case ka => exact rfl); (case kb => first | with_reducible assumption | kernel_rfl); (case kc => first | with_reducible assumption | kernel_rfl); (case kd => exact rfl); (case k9 => first | with_reducible assumption | (repeat' (first | with_reducible exact up_eq | with_reducible refine up_k (by kernel_rfl) ?_ | with_reducible assumption))); (case k5 => k_mem); (case k6 => k_mem); (case k7 => k_asm); (case k8 => exact Room.u8 (by assumption) rfl); (case k10 => with_reducible constructor); (case k11 => first | with_reducible assumption | exact rfl); (case k12 => first | assumption | exact mem643 | exact mem645 | exact mem647 | exact mem649 | exact mem651 | exact mem653 | exact mem655); (case k14 => first | exact Eq.refl false | exact Eq.refl true); (case k15 => exact Nat.le_of_ble_eq_true rfl); k_whole); intro h' tk' F' N'; k_sweep))
local macro_rules | `(tactic| walk_at "isTrue Compare Attribute cons cons") => `(tactic| (k_here; (with_reducible show wpAny _ _ (isTrue (Expr.Compare (Expr.Attribute (Expr.Name (Str.ofString "self") _) _ _) [CmpOp.In] [Expr.Tuple _ _ _] _) _ _) _ _ _); refine' isInT' ?k1 ?k2 ?k3 ?k4 ?k5 ?k6 ?k7 ?k8 ?k9 ?k10 ?k11 ?k12 ?k13 ?k14 ?k15 ?_ ?ka ?kb ?kc ?kd; k_dflt ((case k13 => repeat' (with_reducible constructor)); (case k1 => k_asm); (case k2 => k_asm); (case k3 => k_asm); (case k4 => k_asm); (case ka => exact rfl); (case kb => first | with_reducible assumption | kernel_rfl); (case kc => first | with_reducible assumption | kernel_rfl); (case kd => exact rfl); (case k9 => first | with_reducible assumption | (repeat' (first | with_reducible exact up_eq | with_reducible refine up_k (by kernel_rfl) ?_ | with_reducible assumption))); (case k5 => k_mem); (case k6 => k_mem); (case k7 => k_asm); (case k8 => exact Room.u8 (by assumption) rfl); (case k10 => with_reducible constructor); (case k11 => first | with_reducible assumption | exact rfl); (case k12 => first | assumption | exact mem643 | exact mem645 | exact mem647 | exact mem649 | exact mem651 | exact mem653 | exact mem655); (case k14 => first | exact Eq.refl false | exact Eq.refl true); (case k15 => exact Nat.le_of_ble_eq_true rfl); k_whole); intro h' tk' F' N'; k_sweep))
local macro_rules | `(tactic| walk_at "isTrue Compare Attribute cons cons") => `(tactic| (k_here; (with_reducible show wpAny _ _ (isTrue (Expr.Compare (Expr.Attribute (Expr.Name (Str.ofString "self") _) _ _) [CmpOp.Eq] [Expr.Attribute (Expr.Name (Str.ofString "AddressingMode") _) _ _] _) _ _) _ _ _); refine' isEq' ?k1 ?k2 ?k3 ?k4 ?k5 ?k6 ?k7 ?k8 ?k9 ?k10 ?k11 ?k12 ?k13 ?k14 ?_ ?ka ?kb ?kc ?kd; k_dflt ((case k13 => with_reducible constructor); (case k1 => k_asm); (case k2 => k_asm); (case k3 => k_asm); (case k4 => k_asm); (case ka => exact rfl); (case kb => first | with_reducible assumption | kernel_rfl); (case kc => first | with_reducible assumption | kernel_rfl); (case kd => first | with_reducible assumption | kernel_rfl); (case k9 => first | with_reducible assumption | (repeat' (first | with_reducible exact up_eq | with_reducible refine up_k (by kernel_rfl) ?_ | with_reducible assumption))); (case k5 => k_mem); (case k6 => k_mem); (case k7 => k_asm); (case k8 => exact Room.u8 (by assumption) rfl); (case k10 => with_reducible constructor); (case k11 => first | with_reducible assumption | exact rfl); (case k12 => first | assumption | exact mem643 | exact mem645 | exact mem647 | exact mem649 | exact mem651 | exact mem653 | exact mem655); (case k14 => first | exact Eq.refl false | exact Eq.refl true); k_whole); intro tk'))
local macro_rules | `(tactic| walk_at "isTrue Compare Attribute cons cons") => `(tactic| (k_here; (with_reducible show wpAny _ _ (isTrue (Expr.Compare (Expr.Attribute (Expr.Name (Str.ofString "self") _) _ _) [CmpOp.Is] [Expr.Constant Const.none _ _] _) _ _) _ _ _); refine' isNone' ?k1 ?k2 ?k3 ?k4 ?k5 ?k6 ?k7 ?k8 ?k9 ?k10 ?k11 ?_ ?ka ?kb; k_dflt ((case k1 => k_asm); (case k2 => k_asm); (case k3 => k_asm); (case ka => exact rfl); (case kb => first | with_reducible assumption | kernel_rfl); (case k7 => first | with_reducible assumption | (repeat' (first | with_reducible exact up_eq | with_reducible refine up_k (by kernel_rfl) ?_ | with_reducible assumption))); (case k4 => k_mem); (case k5 => k_mem); (case k6 => k_asm); (case k8 => with_reducible constructor); (case k9 => first | with_reducible assumption | exact rfl); (case k10 => first | exact Eq.refl false | exact Eq.refl true); (case k11 => exact rfl); k_whole); intro tk'))
local macro_rules | `(tactic| walk_at "isTrue Compare Attribute cons cons") => `(tactic| (k_here; (with_reducible show wpAny _ _ (isTrue (Expr.Compare (Expr.Attribute (Expr.Name (Str.ofString "self") _) _ _) [CmpOp.IsNot] [Expr.Constant Const.none _ _] _) _ _) _ _ _); refine' isNotNone' ?k1 ?k2 ?k3 ?k4 ?k5 ?k6 ?k7 ?k8 ?k9 ?k10 ?k11 ?_ ?ka ?kb; k_dflt ((case k1 => k_asm); (case k2 => k_asm); (case k3 => k_asm); (case ka => exact rfl); (case kb => first | with_reducible assumption | kernel_rfl); (case k7 => first | with_reducible assumption | (repeat' (first | with_reducible exact up_eq | with_reducible refine up_k (by kernel_rfl) ?_ | with_reducible assumption))); (case k4 => k_mem); (case k5 => k_mem); (case k6 => k_asm); (case k8 => with_reducible constructor); (case k9 => first | with_reducible assumption | exact rfl); (case k10 => first | exact Eq.refl false | exact Eq.refl true); (case k11 => exact rfl); k_whole); intro tk'))
local macro_rules | `(tactic| walk_at "isTrue Compare Name cons cons") => `(tactic| (k_here; (with_reducible show wpAny _ _ (isTrue (Expr.Compare (Expr.Name _ _) [CmpOp.Eq] [Expr.Attribute (Expr.Name _ _) _ _] _) _ _) _ _ _); refine' isEqN' ?k1 ?k2 ?k3 ?k4 ?k5 ?k6 ?k7 ?k8 ?_ ?ka ?kb ?kc ?kd ?ke; k_dflt ((case k7 => with_reducible constructor); (case k1 => k_asm); (case k2 => k_asm); (case k3 => k_asm); (case ka => exact rfl); (case kb => first | with_reducible assumption | kernel_rfl); (case kc => first | with_reducible assumption | kernel_rfl); (case kd => first | with_reducible assumption | kernel_rfl); (case ke => first | with_reducible assumption | kernel_rfl); (case k4 => exact Room.u8 (by assumption) rfl); (case k5 => first | with_reducible assumption | (repeat' (first | with_reducible exact up_eq | with_reducible refine up_k (by kernel_rfl) ?_ | with_reducible assumption))); (case k6 => first | assumption | exact mem727 | exact mem729); (case k8 => first | exact Eq.refl false | exact Eq.refl true); k_whole); intro tk'))
local macro_rules | `(tactic| walk_at "isTrue UnaryOp") => `(tactic| (k_here; (with_reducible show wpAny _ _ (isTrue (Expr.UnaryOp UnaryOp.Not (Expr.Call (Expr.Name (Str.ofString "isinstance") _) [Expr.Attribute _ _ _, Expr.Name _ _] _ _) _) _ _) _ _ _); refine' notInst' ?k1 ?k2 ?k3 ?k4 ?k5 ?k6 ?k7 ?k8 ?k9 ?k10 ?_ ?ka ?kb ?kc ?kd; k_dflt ((case k1 => k_asm); (case k2 => k_asm); (case k3 => k_asm); (case k4 => k_asm); (case k5 => k_mem); (case k6 => k_mem); (case k7 => k_asm); (case k8 => first | with_reducible assumption | (repeat' (first | with_reducible exact up_eq | with_reducible refine up_k (by kernel_rfl) ?_ | with_reducible assumption))); (case k9 => with_reducible constructor); (case k10 => first | with_reducible assumption | exact rfl); (case ka => exact rfl); (case kb => first | with_reducible assumption | kernel_rfl); (case kc => first | with_reducible assumption | kernel_rfl); (case kd => first | with_reducible assumption | kernel_rfl); k_whole); intro tk'))
local macro_rules | `(tactic| walk_at "eval Call Attribute nil nil") => `(tactic| (k_here; refine' callN0' ?k1 ?k2 ?k3 ?k4 ?k5 ?k6 ?k7 ?k8 ?k9 ?_ ?ka ?kb ?kc ?kd; k_dflt ((case k1 => k_asm); (case k2 => k_asm); (case k3 => k_asm); (case k7 => first | with_reducible assumption | (repeat' (first | with_reducible exact up_eq | with_reducible refine up_k (by kernel_rfl) ?_ | with_reducible assumption))); (case ka => exact rfl); (case kb => first | with_reducible assumption | kernel_rfl); (case kc => first | with_reducible assumption | kernel_rfl); (case k4 => k_mem); (case k5 => k_mem); (case k6 => k_asm); (case k8 => with_reducible constructor); (case k9 => first | with_reducible assumption | exact noAt (by assumption) rfl | exact rfl); (case kd => exact rfl); k_whole)))
local macro_rules | `(tactic| walk_at "eval Call Attribute cons nil") => `(tactic| (k_here; (with_reducible show wpAny _ _ (eval (Expr.Call (Expr.Attribute (Expr.Name _ _) _ _) [Expr.Attribute (Expr.Name (Str.ofString "TargetAddressType") _) _ _] _ _) _) _ _ _); refine' callN1e' ?k1 ?k2 ?kt ?k3 ?k4 ?k5 ?k6 ?k7 ?k8 ?k9 ?k10 ?_ ?ka ?kb ?kc ?ke ?kf ?kd; k_dflt ((case k1 => k_asm); (case k2 => k_asm); (case k3 => k_asm); (case k7 => first | with_reducible assumption | (repeat' (first | with_reducible exact up_eq | with_reducible refine up_k (by kernel_rfl) ?_ | with_reducible assumption))); (case kt => k_asm); (case k10 => with_reducible constructor); (case ke => first | with_reducible assumption | kernel_rfl); (case kf => first | with_reducible assumption | kernel_rfl); (case ka => exact rfl); (case kb => first | with_reducible assumption | kernel_rfl); (case kc => first | with_reducible assumption | kernel_rfl); (case k4 => k_mem); (case k5 => k_mem); (case k6 => k_asm); (case k8 => with_reducible constructor); (case k9 => first | with_reducible assumption | exact noAt (by assumption) rfl | exact rfl); (case kd => exact rfl); k_whole); intro tk'))
local macro_rules | `(tactic| walk_at "eval Call Attribute cons nil") => `(tactic| (k_here; (with_reducible show wpAny _ _ (eval (Expr.Call (Expr.Attribute (Expr.Name _ _) _ _) [Expr.Name _ _] _ _) _) _ _ _); refine' callN1' ?k1 ?k2 ?k3 ?k4 ?k5 ?k6 ?k7 ?kz ?k8 ?k9 ?_ ?ka ?kb ?kc ?ke ?kf ?kd; k_dflt ((case k1 => k_asm); (case k2 => k_asm); (case k3 => k_asm); (case k7 => first | with_reducible assumption | (repeat' (first | with_reducible exact up_eq | with_reducible refine up_k (by kernel_rfl) ?_ | with_reducible assumption))); (case kz => first | with_reducible assumption | (repeat' (first | with_reducible exact up_eq | with_reducible refine up_k (by kernel_rfl) ?_ | with_reducible assumption))); (case ke => first | with_reducible assumption | kernel_rfl); (case kf => first | with_reducible assumption | kernel_rfl); (case ka => exact rfl); (case kb => first | with_reducible assumption | kernel_rfl); (case kc => first | with_reducible assumption | kernel_rfl); (case k4 => k_mem); (case k5 => k_mem); (case k6 => k_asm); (case k8 => with_reducible constructor); (case k9 => first | with_reducible assumption | exact noAt (by assumption) rfl | exact rfl); (case kd => exact rfl); k_whole)))
local macro_rules | `(tactic| walk_at "getMethod ref") => `(tactic| (k_here; refine' meth ?k1 ?k2 ?k3 ?k4 ?k5 ?k6 ?k7 ?k8 ?_; k_dflt ((case k1 => k_asm); (case k2 => k_asm); (case k3 => k_asm); (case k4 => k_mem); (case k5 => k_mem); (case k6 => k_asm); (case k7 => with_reducible constructor); (case k8 => first | with_reducible assumption | exact noAt (by assumption) rfl | exact rfl); k_whole)))
local macro_rules | `(tactic| walk_at "call type:bytes") => `(tactic| (k_here; (with_reducible show wpAny _ _ (call (Value.type "bytes") []) _ _ _); refine' bytes_nil' ?_); k_dflt (intro t' k'))
local macro_rules | `(tactic| walk_at "call type:bytes") => `(tactic| (k_here; (with_reducible show wpAny _ _ (call (Value.type "bytes") [Value.ref _]) _ _ _); refine' bytes_top' ?k1 ?k2 ?k3 ?k4 ?k5 ?_; k_dflt ((case k1 => k_asm); (case k2 => k_asm); (case k3 => assumption); (case k4 => omega); (case k5 => omega); k_whole); intro h' t' k' F' N'; k_sweep))
local macro_rules | `(tactic| walk_at "execs cons Assign cons") => `(tactic| with_reducible refine wpAny_execs_cons ?_)
local macro_rules | `(tactic| walk_at "execs cons Assign nil") => `(tactic| with_reducible refine wpAny_execs_cons ?_)
local macro_rules | `(tactic| walk_at "execs cons If cons") => `(tactic| with_reducible refine wpAny_execs_cons ?_)
local macro_rules | `(tactic| walk_at "execs cons If nil") => `(tactic| with_reducible refine wpAny_execs_cons ?_)
local macro_rules | `(tactic| walk_at "execs cons Expr cons") => `(tactic| with_reducible refine wpAny_execs_cons ?_)
local macro_rules | `(tactic| walk_at "execs cons Expr nil") => `(tactic| with_reducible refine wpAny_execs_cons ?_)
local macro_rules | `(tactic| walk_at "execs cons Assert cons") => `(tactic| with_reducible refine wpAny_execs_cons ?_)
local macro_rules | `(tactic| walk_at "execs cons Assert nil") => `(tactic| with_reducible refine wpAny_execs_cons ?_)
local macro_rules | `(tactic| walk_at "execs cons Return cons") => `(tactic| with_reducible refine wpAny_execs_cons ?_)
local macro_rules | `(tactic| walk_at "execs cons Return nil") => `(tactic| with_reducible refine wpAny_execs_cons ?_)
local macro_rules | `(tactic| walk_at "execs cons For cons") => `(tactic| with_reducible refine wpAny_execs_cons ?_)
local macro_rules | `(tactic| walk_at "execs cons For nil") => `(tactic| with_reducible refine wpAny_execs_cons ?_)
local macro_rules | `(tactic| walk_at "execs nil") => `(tactic| with_reducible refine wpAny_execs_nil ?_)
local macro_rules | `(tactic| walk_at "exec If Compare cons nil") => `(tactic| with_reducible refine wpAny_If ?_)
local macro_rules | `(tactic| walk_at "exec If Compare cons cons") => `(tactic| with_reducible refine wpAny_If ?_)
local macro_rules | `(tactic| walk_at "exec If UnaryOp cons nil") => `(tactic| with_reducible refine wpAny_If ?_)
local macro_rules | `(tactic| walk_at "exec If UnaryOp cons cons") => `(tactic| with_reducible refine wpAny_If ?_)
local macro_rules | `(tactic| walk_at "exec If BoolOp cons nil") => `(tactic| with_reducible refine wpAny_If ?_)
local macro_rules | `(tactic| walk_at "exec If BoolOp cons cons") => `(tactic| with_reducible refine wpAny_If ?_)
local macro_rules | `(tactic| walk_at "exec If Attribute cons nil") => `(tactic| with_reducible refine wpAny_If ?_)
local macro_rules | `(tactic| walk_at "exec If Attribute cons cons") => `(tactic| with_reducible refine wpAny_If ?_)
local macro_rules | `(tactic| walk_at "exec If Call cons nil") => `(tactic| with_reducible refine wpAny_If ?_)
local macro_rules | `(tactic| walk_at "exec If Call cons cons") => `(tactic| with_reducible refine wpAny_If ?_)
local macro_rules | `(tactic| walk_at "exec If Name cons nil") => `(tactic| with_reducible refine wpAny_If ?_)
local macro_rules | `(tactic| walk_at "exec If Name cons cons") => `(tactic| with_reducible refine wpAny_If ?_)
local macro_rules | `(tactic| walk_at "ite") => `(tactic| (k_dflt (first | refine PySem.W.ite_neg (by (first | ((try simp only [beq_iff_eq, bne_iff_ne, decide_eq_true_eq, decide_eq_false_iff_not, Bool.not_eq_true', Bool.not_eq_true, ne_eq]); omega) | (simp; done))) ?_ | refine PySem.W.ite_pos (by (first | ((try simp only [beq_iff_eq, bne_iff_ne, decide_eq_true_eq, decide_eq_false_iff_not, Bool.not_eq_true', Bool.not_eq_true, ne_eq]); omega) | (simp; done))) ?_)))
local macro_rules | `(tactic| walk_at "ite") => `(tactic| (first | refine PySem.W.ite_pos (by decide) ?_ | refine PySem.W.ite_neg (by decide) ?_))
local macro_rules | `(tactic| walk_at "compareOp In int ref") => `(tactic| (k_here; (with_reducible show wpAny _ _ (compareOp CmpOp.In (Value.int _ _) (Value.ref _)) _ _ _); k_dflt (refine in_tuple_ints (News.isTup (by k_asm) (by k_mem)) (by repeat constructor) ?_)))
local macro_rules | `(tactic| walk_at "ite") => `(tactic| with_reducible first | refine iteT ?_ | refine iteF ?_ | refine iteNT ?_ | refine iteNF ?_)
local macro_rules | `(tactic| k_all) => `(tactic| exact rest_ne (by assumption) (by (try dsimp only); omega))
local macro_rules | `(tactic| k_mem) => `(tactic| with_reducible_and_instances assumption)
local macro_rules | `(tactic| k_all) => `(tactic| with_reducible assumption)
local macro_rules | `(tactic| walk_at "call ref cons") => `(tactic| (k_here; (with_reducible show wpAny _ _ (call (Value.ref 876) [_]) _ _ _); refine wpAny_call ?_; refine' ent876 ?kR ?k1 ?k2 ?k3 ?k4 ?k5 ?kA ?kF ?kK ?_; k_dflt ((case k2 => k_asm); (case k4 => k_asm); (case k1 => k_asm); (case k3 => k_asm); (case k5 => k_asm); (case kR => first | with_reducible assumption | assumption); (case kA => first | with_reducible assumption | exact Around.frames_deeper (Below.stack (by with_reducible assumption)) | exact rfl); (case kF => first | with_reducible assumption | exact rfl); (case kK => first | with_reducible assumption | exact rfl); k_whole; intro AA g' L' h' m' tk hq0 hq1 hq2 hq3 hq4 R' hA' FG' F' N' B' X' T'; (try k_fold))))
local macro_rules | `(tactic| walk_at "call ref cons") => `(tactic| (k_here; (with_reducible show wpAny _ _ (call (Value.ref 883) [_]) _ _ _); refine wpAny_call ?_; refine' ent883 ?kR ?k1 ?k2 ?k3 ?k4 ?k5 ?kA ?kF ?kK ?_; k_dflt ((case k2 => k_asm); (case k4 => k_asm); (case k1 => k_asm); (case k3 => k_asm); (case k5 => k_asm); (case kR => first | with_reducible assumption | assumption); (case kA => first | with_reducible assumption | exact Around.frames_deeper (Below.stack (by with_reducible assumption)) | exact rfl); (case kF => first | with_reducible assumption | exact rfl); (case kK => first | with_reducible assumption | exact rfl); k_whole; intro AA g' L' h' m' tk hq0 hq1 hq2 R' hA' FG' F' N' B' X' T'; (try k_fold))))
local macro_rules | `(tactic| walk_at "call ref cons") => `(tactic| (k_here; (with_reducible show wpAny _ _ (call (Value.ref 890) [_]) _ _ _); refine wpAny_call ?_; refine' ent890 ?kR ?k1 ?k2 ?k3 ?k4 ?k5 ?kA ?kF ?kK ?_; k_dflt ((case k2 => k_asm); (case k4 => k_asm); (case k1 => k_asm); (case k3 => k_asm); (case k5 => k_asm); (case kR => first | with_reducible assumption | assumption); (case kA => first | with_reducible assumption | exact Around.frames_deeper (Below.stack (by with_reducible assumption)) | exact rfl); (case kF => first | with_reducible assumption | exact rfl); (case kK => first | with_reducible assumption | exact rfl); k_whole; intro AA g' L' h' m' tk hq0 hq1 hq2 R' hA' FG' F' N' B' X' T'; (try k_fold))))
local macro_rules | `(tactic| walk_at "call ref cons") => `(tactic| (k_here; (with_reducible show wpAny _ _ (call (Value.ref 897) [_]) _ _ _); refine wpAny_call ?_; refine' ent897 ?kR ?k1 ?k2 ?k3 ?k4 ?k5 ?kA ?kF ?kK ?_; k_dflt ((case k2 => k_asm); (case k4 => k_asm); (case k1 => k_asm); (case k3 => k_asm); (case k5 => k_asm); (case kR => first | with_reducible assumption | assumption); (case kA => first | with_reducible assumption | exact Around.frames_deeper (Below.stack (by with_reducible assumption)) | exact rfl); (case kF => first | with_reducible assumption | exact rfl); (case kK => first | with_reducible assumption | exact rfl); k_whole; intro AA g' L' h' m' tk hq0 hq1 hq2 R' hA' FG' F' N' B' X' T'; (try k_fold))))
local macro_rules | `(tactic| walk_at "call ref cons") => `(tactic| (k_here; (with_reducible show wpAny _ _ (call (Value.ref 904) [_]) _ _ _); refine wpAny_call ?_; refine' ent904 ?kR ?k1 ?k2 ?k3 ?k4 ?k5 ?kA ?kF ?kK ?_; k_dflt ((case k2 => k_asm); (case k4 => k_asm); (case k1 => k_asm); (case k3 => k_asm); (case k5 => k_asm); (case kR => first | with_reducible assumption | assumption); (case kA => first | with_reducible assumption | exact Around.frames_deeper (Below.stack (by with_reducible assumption)) | exact rfl); (case kF => first | with_reducible assumption | exact rfl); (case kK => first | with_reducible assumption | exact rfl); k_whole; intro AA g' L' h' m' tk hq0 hq1 hq2 R' hA' FG' F' N' B' X' T'; (try k_fold))))
local macro_rules | `(tactic| walk_at "call ref cons") => `(tactic| (k_here; (with_reducible show wpAny _ _ (call (Value.ref 911) [_]) _ _ _); refine wpAny_call ?_; refine' ent911 ?kR ?k1 ?k2 ?k3 ?k4 ?k5 ?kA ?kF ?kK ?_; k_dflt ((case k2 => k_asm); (case k4 => k_asm); (case k1 => k_asm); (case k3 => k_asm); (case k5 => k_asm); (case kR => first | with_reducible assumption | assumption); (case kA => first | with_reducible assumption | exact Around.frames_deeper (Below.stack (by with_reducible assumption)) | exact rfl); (case kF => first | with_reducible assumption | exact rfl); (case kK => first | with_reducible assumption | exact rfl); k_whole; intro AA g' L' h' m' tk hq0 hq1 hq2 R' hA' FG' F' N' B' X' T'; (try k_fold))))
local macro_rules | `(tactic| walk_at "call ref cons") => `(tactic| (k_here; (with_reducible show wpAny _ _ (call (Value.ref 918) [_, _]) _ _ _); refine wpAny_call ?_; refine' ent918 ?kR ?k1 ?k2 ?k3 ?k4 ?k5 ?kA ?kF ?kK ?_; k_dflt ((case k2 => k_asm); (case k4 => k_asm); (case k1 => k_asm); (case k3 => k_asm); (case k5 => k_asm); (case kR => first | with_reducible assumption | assumption); (case kA => first | with_reducible assumption | exact Around.frames_deeper (Below.stack (by with_reducible assumption)) | exact rfl); (case kF => first | with_reducible assumption | exact rfl); (case kK => first | with_reducible assumption | exact rfl); k_whole; intro AA g' L' h' m' tk hq0 hq1 hq2 hq3 hq4 hq5 hq6 hq7 R' hA' FG' F' N' B' X' T'; (try k_fold))))
local macro_rules | `(tactic| walk_at "call ref cons") => `(tactic| (k_here; (with_reducible show wpAny _ _ (call (Value.ref 926) [_, _]) _ _ _); refine wpAny_call ?_; refine' ent926 ?kR ?k1 ?k2 ?k3 ?k4 ?k5 ?kA ?kF ?kK ?_; k_dflt ((case k2 => k_asm); (case k4 => k_asm); (case k1 => k_asm); (case k3 => k_asm); (case k5 => k_asm); (case kR => first | with_reducible assumption | assumption); (case kA => first | with_reducible assumption | exact Around.frames_deeper (Below.stack (by with_reducible assumption)) | exact rfl); (case kF => first | with_reducible assumption | exact rfl); (case kK => first | with_reducible assumption | exact rfl); k_whole; intro AA g' L' h' m' tk hq0 hq1 hq2 hq3 hq4 hq5 hq6 hq7 R' hA' FG' F' N' B' X' T'; (try k_fold))))
local macro_rules | `(tactic| walk_at "call ref cons") => `(tactic| (k_here; (with_reducible show wpAny _ _ (call (Value.ref 934) [_, _]) _ _ _); refine wpAny_call ?_; refine' ent934 ?kR ?k1 ?k2 ?k3 ?k4 ?k5 ?kA ?kF ?kK ?_; k_dflt ((case k2 => k_asm); (case k4 => k_asm); (case k1 => k_asm); (case k3 => k_asm); (case k5 => k_asm); (case kR => first | with_reducible assumption | assumption); (case kA => first | with_reducible assumption | exact Around.frames_deeper (Below.stack (by with_reducible assumption)) | exact rfl); (case kF => first | with_reducible assumption | exact rfl); (case kK => first | with_reducible assumption | exact rfl); k_whole; intro AA g' L' h' m' tk hq0 hq1 hq2 hq3 hq4 hq5 hq6 hq7 R' hA' FG' F' N' B' X' T'; (try k_fold))))
local macro_rules | `(tactic| walk_at "call ref cons") => `(tactic| (k_here; (with_reducible show wpAny _ _ (call (Value.ref 941) [_, _]) _ _ _); refine wpAny_call ?_; refine' ent941 ?kR ?k1 ?k2 ?k3 ?k4 ?k5 ?kA ?kF ?kK ?_; k_dflt ((case k2 => k_asm); (case k4 => k_asm); (case k1 => k_asm); (case k3 => k_asm); (case k5 => k_asm); (case kR => first | with_reducible assumption | assumption); (case kA => first | with_reducible assumption | exact Around.frames_deeper (Below.stack (by with_reducible assumption)) | exact rfl); (case kF => first | with_reducible assumption | exact rfl); (case kK => first | with_reducible assumption | exact rfl); k_whole; intro AA g' L' h' m' tk hq0 hq1 hq2 hq3 hq4 hq5 hq6 hq7 hq8 hq9 R' hA' FG' F' N' B' X' T'; (try k_fold))))
local macro_rules | `(tactic| walk_at "call ref cons") => `(tactic| (k_here; (with_reducible show wpAny _ _ (call (Value.ref 949) [_, _]) _ _ _); refine wpAny_call ?_; refine' ent949 ?kR ?k1 ?k2 ?k3 ?k4 ?k5 ?kA ?kF ?kK ?_; k_dflt ((case k2 => k_asm); (case k4 => k_asm); (case k1 => k_asm); (case k3 => k_asm); (case k5 => k_asm); (case kR => first | with_reducible assumption | assumption); (case kA => first | with_reducible assumption | exact Around.frames_deeper (Below.stack (by with_reducible assumption)) | exact rfl); (case kF => first | with_reducible assumption | exact rfl); (case kK => first | with_reducible assumption | exact rfl); k_whole; intro AA g' L' h' m' tk hq0 hq1 hq2 hq3 hq4 hq5 hq6 hq7 hq8 hq9 R' hA' FG' F' N' B' X' T'; (try k_fold))))
local macro_rules | `(tactic| walk_at "call ref cons") => `(tactic| (k_here; (with_reducible show wpAny _ _ (call (Value.ref 956) [_, _]) _ _ _); refine wpAny_call ?_; refine' ent956 ?kR ?k1 ?k2 ?k3 ?k4 ?k5 ?kA ?kF ?kK ?_; k_dflt ((case k2 => k_asm); (case k4 => k_asm); (case k1 => k_asm); (case k3 => k_asm); (case k5 => k_asm); (case kR => first | with_reducible assumption | assumption); (case kA => first | with_reducible assumption | exact Around.frames_deeper (Below.stack (by with_reducible assumption)) | exact rfl); (case kF => first | with_reducible assumption | exact rfl); (case kK => first | with_reducible assumption | exact rfl); k_whole; intro AA g' L' h' m' tk hq0 hq1 hq2 hq3 hq4 hq5 R' hA' FG' F' N' B' X' T'; (try k_fold))))
local macro_rules | `(tactic| walk_at "call ref cons") => `(tactic| (k_here; (with_reducible show wpAny _ _ (call (Value.ref 963) [_, _]) _ _ _); refine wpAny_call ?_; refine' ent963 ?kR ?k1 ?k2 ?k3 ?k4 ?k5 ?kA ?kF ?kK ?_; k_dflt ((case k2 => k_asm); (case k4 => k_asm); (case k1 => k_asm); (case k3 => k_asm); (case k5 => k_asm); (case kR => first | with_reducible assumption | assumption); (case kA => first | with_reducible assumption | exact Around.frames_deeper (Below.stack (by with_reducible assumption)) | exact rfl); (case kF => first | with_reducible assumption | exact rfl); (case kK => first | with_reducible assumption | exact rfl); k_whole; intro AA g' L' h' m' tk hq0 hq1 hq2 hq3 hq4 hq5 R' hA' FG' F' N' B' X' T'; (try k_fold))))
local macro_rules | `(tactic| walk_at "call ref cons") => `(tactic| (k_here; (with_reducible show wpAny _ _ (call (Value.ref 970) [_, _]) _ _ _); refine wpAny_call ?_; refine' ent970 ?kR ?k1 ?k2 ?k3 ?k4 ?k5 ?kA ?kF ?kK ?_; k_dflt ((case k2 => k_asm); (case k4 => k_asm); (case k1 => k_asm); (case k3 => k_asm); (case k5 => k_asm); (case kR => first | with_reducible assumption | assumption); (case kA => first | with_reducible assumption | exact Around.frames_deeper (Below.stack (by with_reducible assumption)) | exact rfl); (case kF => first | with_reducible assumption | exact rfl); (case kK => first | with_reducible assumption | exact rfl); k_whole; intro AA g' L' h' m' tk hq0 hq1 hq2 hq3 hq4 hq5 R' hA' FG' F' N' B' X' T'; (try k_fold))))
local macro_rules | `(tactic| walk_at "call ref cons") => `(tactic| (k_here; (with_reducible show wpAny _ _ (call (Value.ref 977) [_, _]) _ _ _); refine wpAny_call ?_; refine' ent977 ?kR ?k1 ?k2 ?k3 ?k4 ?k5 ?kA ?kF ?kK ?_; k_dflt ((case k2 => k_asm); (case k4 => k_asm); (case k1 => k_asm); (case k3 => k_asm); (case k5 => k_asm); (case kR => first | with_reducible assumption | assumption); (case kA => first | with_reducible assumption | exact Around.frames_deeper (Below.stack (by with_reducible assumption)) | exact rfl); (case kF => first | with_reducible assumption | exact rfl); (case kK => first | with_reducible assumption | exact rfl); k_whole; intro AA g' L' h' m' tk hq0 hq1 hq2 hq3 hq4 hq5 R' hA' FG' F' N' B' X' T'; (try k_fold))))
local macro_rules | `(tactic| walk_at "call ref cons") => `(tactic| (k_here; (with_reducible show wpAny _ _ (call (Value.ref 984) [_, _]) _ _ _); refine wpAny_call ?_; refine' ent984 ?kR ?k1 ?k2 ?k3 ?k4 ?k5 ?kA ?kF ?kK ?_; k_dflt ((case k2 => k_asm); (case k4 => k_asm); (case k1 => k_asm); (case k3 => k_asm); (case k5 => k_asm); (case kR => first | with_reducible assumption | assumption); (case kA => first | with_reducible assumption | exact Around.frames_deeper (Below.stack (by with_reducible assumption)) | exact rfl); (case kF => first | with_reducible assumption | exact rfl); (case kK => first | with_reducible assumption | exact rfl); k_whole; intro AA g' L' h' m' tk hq0 hq1 hq2 hq3 hq4 hq5 R' hA' FG' F' N' B' X' T'; (try k_fold))))
local macro_rules | `(tactic| walk_at "call ref cons") => `(tactic| (k_here; (with_reducible show wpAny _ _ (call (Value.ref 991) [_]) _ _ _); refine wpAny_call ?_; refine' ent991 ?kR ?k1 ?k2 ?k3 ?k4 ?k5 ?kA ?kF ?kK ?_; k_dflt ((case k2 => k_asm); (case k4 => k_asm); (case k1 => k_asm); (case k3 => k_asm); (case k5 => k_asm); (case kR => first | with_reducible assumption | assumption); (case kA => first | with_reducible assumption | exact Around.frames_deeper (Below.stack (by with_reducible assumption)) | exact rfl); (case kF => first | with_reducible assumption | exact rfl); (case kK => first | with_reducible assumption | exact rfl); k_whole; intro AA g' L' h' m' tk hq0 hq1 hq2 hq3 hq4 R' hA' FG' F' N' B' X' T'; (try k_fold))))
local macro_rules | `(tactic| walk_at "call ref cons") => `(tactic| (k_here; (with_reducible show wpAny _ _ (call (Value.ref 998) [_]) _ _ _); refine wpAny_call ?_; refine' ent998 ?kR ?k1 ?k2 ?k3 ?k4 ?k5 ?kA ?kF ?kK ?_; k_dflt ((case k2 => k_asm); (case k4 => k_asm); (case k1 => k_asm); (case k3 => k_asm); (case k5 => k_asm); (case kR => first | with_reducible assumption | assumption); (case kA => first | with_reducible assumption | exact Around.frames_deeper (Below.stack (by with_reducible assumption)) | exact rfl); (case kF => first | with_reducible assumption | exact rfl); (case kK => first | with_reducible assumption | exact rfl); k_whole; intro AA g' L' h' m' tk hq0 hq1 hq2 R' hA' FG' F' N' B' X' T'; (try k_fold))))
local macro_rules | `(tactic| walk_at "call ref cons") => `(tactic| (k_here; (with_reducible show wpAny _ _ (call (Value.ref 1005) [_]) _ _ _); refine wpAny_call ?_; refine' ent1005 ?kR ?k1 ?k2 ?k3 ?k4 ?k5 ?kA ?kF ?kK ?_; k_dflt ((case k2 => k_asm); (case k4 => k_asm); (case k1 => k_asm); (case k3 => k_asm); (case k5 => k_asm); (case kR => first | with_reducible assumption | assumption); (case kA => first | with_reducible assumption | exact Around.frames_deeper (Below.stack (by with_reducible assumption)) | exact rfl); (case kF => first | with_reducible assumption | exact rfl); (case kK => first | with_reducible assumption | exact rfl); k_whole; intro AA g' L' h' m' tk hq0 hq1 hq2 R' hA' FG' F' N' B' X' T'; (try k_fold))))
local macro_rules | `(tactic| walk_at "call ref cons") => `(tactic| (k_here; (with_reducible show wpAny _ _ (call (Value.ref 1012) [_]) _ _ _); refine wpAny_call ?_; refine' ent1012 ?kR ?k1 ?k2 ?k3 ?k4 ?k5 ?kA ?kF ?kK ?_; k_dflt ((case k2 => k_asm); (case k4 => k_asm); (case k1 => k_asm); (case k3 => k_asm); (case k5 => k_asm); (case kR => first | with_reducible assumption | assumption); (case kA => first | with_reducible assumption | exact Around.frames_deeper (Below.stack (by with_reducible assumption)) | exact rfl); (case kF => first | with_reducible assumption | exact rfl); (case kK => first | with_reducible assumption | exact rfl); k_whole; intro AA g' L' h' m' tk hq0 hq1 hq2 hq3 hq4 R' hA' FG' F' N' B' X' T'; (try k_fold))))
local macro_rules | `(tactic| walk_at "call ref cons") => `(tactic| (k_here; (with_reducible show wpAny _ _ (call (Value.ref 1019) [_]) _ _ _); refine wpAny_call ?_; refine' ent1019 ?kR ?k1 ?k2 ?k3 ?k4 ?k5 ?kA ?kF ?kK ?_; k_dflt ((case k2 => k_asm); (case k4 => k_asm); (case k1 => k_asm); (case k3 => k_asm); (case k5 => k_asm); (case kR => first | with_reducible assumption | assumption); (case kA => first | with_reducible assumption | exact Around.frames_deeper (Below.stack (by with_reducible assumption)) | exact rfl); (case kF => first | with_reducible assumption | exact rfl); (case kK => first | with_reducible assumption | exact rfl); k_whole; intro AA g' L' h' m' tk hq0 hq1 hq2 hq3 hq4 R' hA' FG' F' N' B' X' T'; (try k_fold))))
local macro_rules | `(tactic| walk_at "call ref cons") => `(tactic| (k_here; (with_reducible show wpAny _ _ (call (Value.ref 1026) [_]) _ _ _); refine wpAny_call ?_; refine' ent1026 ?kR ?k1 ?k2 ?k3 ?k4 ?k5 ?kA ?kF ?kK ?_; k_dflt ((case k2 => k_asm); (case k4 => k_asm); (case k1 => k_asm); (case k3 => k_asm); (case k5 => k_asm); (case kR => first | with_reducible assumption | assumption); (case kA => first | with_reducible assumption | exact Around.frames_deeper (Below.stack (by with_reducible assumption)) | exact rfl); (case kF => first | with_reducible assumption | exact rfl); (case kK => first | with_reducible assumption | exact rfl); k_whole; intro AA g' L' h' m' tk hq0 hq1 hq2 R' hA' FG' F' N' B' X' T'; (try k_fold))))
local macro_rules | `(tactic| walk_at "call ref cons") => `(tactic| (k_here; (with_reducible show wpAny _ _ (call (Value.ref 1033) [_]) _ _ _); refine wpAny_call ?_; refine' ent1033 ?kR ?k1 ?k2 ?k3 ?k4 ?k5 ?kA ?kF ?kK ?_; k_dflt ((case k2 => k_asm); (case k4 => k_asm); (case k1 => k_asm); (case k3 => k_asm); (case k5 => k_asm); (case kR => first | with_reducible assumption | assumption); (case kA => first | with_reducible assumption | exact Around.frames_deeper (Below.stack (by with_reducible assumption)) | exact rfl); (case kF => first | with_reducible assumption | exact rfl); (case kK => first | with_reducible assumption | exact rfl); k_whole; intro AA g' L' h' m' tk hq0 hq1 hq2 R' hA' FG' F' N' B' X' T'; (try k_fold))))
local macro_rules | `(tactic| walk_at "call ref cons") => `(tactic| (k_here; (with_reducible show wpAny _ _ (call (Value.ref 1178) [_, _, _]) _ _ _); refine wpAny_call ?_; refine' ent1178 ?kR ?k1 ?k2 ?k3 ?k4 ?k5 ?kA ?kF ?kK ?_; k_dflt ((case k2 => k_asm); (case k4 => k_asm); (case k1 => k_asm); (case k3 => k_asm); (case k5 => k_asm); (case kR => first | with_reducible assumption | assumption); (case kA => first | with_reducible assumption | exact Around.frames_deeper (Below.stack (by with_reducible assumption)) | exact rfl); (case kF => first | with_reducible assumption | exact rfl); (case kK => first | with_reducible assumption | exact rfl); k_whole; intro AA g' L' h' m' tk hq0 hq1 hq2 hq3 hq4 hq5 hq6 hq7 hq8 hq9 hq10 hq11 hq12 R' hA' FG' F' N' B' X' T'; (try k_fold))))
local macro_rules | `(tactic| walk_at "call ref cons") => `(tactic| (k_here; (with_reducible show wpAny _ _ (call (Value.ref 1185) [_, _, _]) _ _ _); refine wpAny_call ?_; refine' ent1185 ?kR ?k1 ?k2 ?k3 ?k4 ?k5 ?kA ?kF ?kK ?_; k_dflt ((case k2 => k_asm); (case k4 => k_asm); (case k1 => k_asm); (case k3 => k_asm); (case k5 => k_asm); (case kR => first | with_reducible assumption | assumption); (case kA => first | with_reducible assumption | exact Around.frames_deeper (Below.stack (by with_reducible assumption)) | exact rfl); (case kF => first | with_reducible assumption | exact rfl); (case kK => first | with_reducible assumption | exact rfl); k_whole; intro AA g' L' h' m' tk hq0 hq1 hq2 hq3 hq4 hq5 hq6 hq7 hq8 hq9 hq10 hq11 hq12 hq13 hq14 R' hA' FG' F' N' B' X' T'; (try k_fold))))
local macro_rules | `(tactic| walk_at "call ref cons") => `(tactic| (k_here; (with_reducible show wpAny _ _ (call (Value.ref 1052) [_, _, _]) _ _ _); refine wpAny_call ?_; refine' ent1052 ?kR ?k1 ?k2 ?k3 ?k4 ?k5 ?kA ?kF ?kK ?_; k_dflt ((case k2 => k_asm); (case k4 => k_asm); (case k1 => k_asm); (case k3 => k_asm); (case k5 => k_asm); (case kR => first | with_reducible assumption | assumption); (case kA => first | with_reducible assumption | exact Around.frames_deeper (Below.stack (by with_reducible assumption)) | exact rfl); (case kF => first | with_reducible assumption | exact rfl); (case kK => first | with_reducible assumption | exact rfl); k_whole; intro AA g' L' h' m' tk hq0 hq1 hq2 hq3 hq4 hq5 hq6 hq7 hq8 hq9 hq10 hq11 hq12 R' hA' FG' F' N' B' X' T'; (try k_fold))))
local macro_rules | `(tactic| walk_at "call ref cons") => `(tactic| (k_here; (with_reducible show wpAny _ _ (call (Value.ref 1059) [_]) _ _ _); refine wpAny_call ?_; refine' ent1059 ?kR ?k1 ?k2 ?k3 ?k4 ?k5 ?kA ?kF ?kK ?_; k_dflt ((case k2 => k_asm); (case k4 => k_asm); (case k1 => k_asm); (case k3 => k_asm); (case k5 => k_asm); (case kR => first | with_reducible assumption | assumption); (case kA => first | with_reducible assumption | exact Around.frames_deeper (Below.stack (by with_reducible assumption)) | exact rfl); (case kF => first | with_reducible assumption | exact rfl); (case kK => first | with_reducible assumption | exact rfl); k_whole; intro AA g' L' h' m' tk hq0 hq1 hq2 R' hA' FG' F' N' B' X' T'; (try k_fold))))
local macro_rules | `(tactic| walk_at "call ref cons") => `(tactic| (k_here; (with_reducible show wpAny _ _ (call (Value.ref 1066) [_]) _ _ _); refine wpAny_call ?_; refine' ent1066 ?kR ?k1 ?k2 ?k3 ?k4 ?k5 ?kA ?kF ?kK ?_; k_dflt ((case k2 => k_asm); (case k4 => k_asm); (case k1 => k_asm); (case k3 => k_asm); (case k5 => k_asm); (case kR => first | with_reducible assumption | assumption); (case kA => first | with_reducible assumption | exact Around.frames_deeper (Below.stack (by with_reducible assumption)) | exact rfl); (case kF => first | with_reducible assumption | exact rfl); (case kK => first | with_reducible assumption | exact rfl); k_whole; intro AA g' L' h' m' tk hq0 hq1 hq2 R' hA' FG' F' N' B' X' T'; (try k_fold))))
local macro_rules | `(tactic| walk_at "call ref cons") => `(tactic| (k_here; (with_reducible show wpAny _ _ (call (Value.ref 1073) [_, _]) _ _ _); refine wpAny_call ?_; refine' ent1073 ?kR ?k1 ?k2 ?k3 ?k4 ?k5 ?kA ?kF ?kK ?_; k_dflt ((case k2 => k_asm); (case k4 => k_asm); (case k1 => k_asm); (case k3 => k_asm); (case k5 => k_asm); (case kR => first | with_reducible assumption | assumption); (case kA => first | with_reducible assumption | exact Around.frames_deeper (Below.stack (by with_reducible assumption)) | exact rfl); (case kF => first | with_reducible assumption | exact rfl); (case kK => first | with_reducible assumption | exact rfl); k_whole; intro AA g' L' h' m' tk hq0 hq1 hq2 hq3 hq4 hq5 R' hA' FG' F' N' B' X' T'; (try k_fold))))
local macro_rules | `(tactic| walk_at "call ref cons") => `(tactic| (k_here; (with_reducible show wpAny _ _ (call (Value.ref 1081) [_, _]) _ _ _); refine wpAny_call ?_; refine' ent1081 ?kR ?k1 ?k2 ?k3 ?k4 ?k5 ?kA ?kF ?kK ?_; k_dflt ((case k2 => k_asm); (case k4 => k_asm); (case k1 => k_asm); (case k3 => k_asm); (case k5 => k_asm); (case kR => first | with_reducible assumption | assumption); (case kA => first | with_reducible assumption | exact Around.frames_deeper (Below.stack (by with_reducible assumption)) | exact rfl); (case kF => first | with_reducible assumption | exact rfl); (case kK => first | with_reducible assumption | exact rfl); k_whole; intro AA g' L' h' m' tk hq0 hq1 hq2 hq3 hq4 hq5 R' hA' FG' F' N' B' X' T'; (try k_fold))))
local macro_rules | `(tactic| walk_at "call ref cons") => `(tactic| (k_here; (with_reducible show wpAny _ _ (call (Value.ref 1089) [_, _]) _ _ _); refine wpAny_call ?_; refine' ent1089 ?kR ?k1 ?k2 ?k3 ?k4 ?k5 ?kA ?kF ?kK ?_; k_dflt ((case k2 => k_asm); (case k4 => k_asm); (case k1 => k_asm); (case k3 => k_asm); (case k5 => k_asm); (case kR => first | with_reducible assumption | assumption); (case kA => first | with_reducible assumption | exact Around.frames_deeper (Below.stack (by with_reducible assumption)) | exact rfl); (case kF => first | with_reducible assumption | exact rfl); (case kK => first | with_reducible assumption | exact rfl); k_whole; intro AA g' L' h' m' tk hq0 hq1 hq2 hq3 hq4 hq5 R' hA' FG' F' N' B' X' T'; (try k_fold))))
local macro_rules | `(tactic| walk_at "call ref cons") => `(tactic| (k_here; (with_reducible show wpAny _ _ (call (Value.ref 1096) [_]) _ _ _); refine wpAny_call ?_; refine' ent1096 ?kR ?k1 ?k2 ?k3 ?k4 ?k5 ?kA ?kF ?kK ?_; k_dflt ((case k2 => k_asm); (case k4 => k_asm); (case k1 => k_asm); (case k3 => k_asm); (case k5 => k_asm); (case kR => first | with_reducible assumption | assumption); (case kA => first | with_reducible assumption | exact Around.frames_deeper (Below.stack (by with_reducible assumption)) | exact rfl); (case kF => first | with_reducible assumption | exact rfl); (case kK => first | with_reducible assumption | exact rfl); k_whole; intro AA g' L' h' m' tk hq0 hq1 hq2 R' hA' FG' F' N' B' X' T'; (try k_fold))))
local macro_rules | `(tactic| walk_at "call ref cons") => `(tactic| (k_here; (with_reducible show wpAny _ _ (call (Value.ref 1103) [_]) _ _ _); refine wpAny_call ?_; refine' ent1103 ?kR ?k1 ?k2 ?k3 ?k4 ?k5 ?kA ?kF ?kK ?_; k_dflt ((case k2 => k_asm); (case k4 => k_asm); (case k1 => k_asm); (case k3 => k_asm); (case k5 => k_asm); (case kR => first | with_reducible assumption | assumption); (case kA => first | with_reducible assumption | exact Around.frames_deeper (Below.stack (by with_reducible assumption)) | exact rfl); (case kF => first | with_reducible assumption | exact rfl); (case kK => first | with_reducible assumption | exact rfl); k_whole; intro AA g' L' h' m' tk hq0 hq1 hq2 R' hA' FG' F' N' B' X' T'; (try k_fold))))
local macro_rules | `(tactic| walk_at "call ref cons") => `(tactic| (k_here; (with_reducible show wpAny _ _ (call (Value.ref 1110) [_]) _ _ _); refine wpAny_call ?_; refine' ent1110 ?kR ?k1 ?k2 ?k3 ?k4 ?k5 ?kA ?kF ?kK ?_; k_dflt ((case k2 => k_asm); (case k4 => k_asm); (case k1 => k_asm); (case k3 => k_asm); (case k5 => k_asm); (case kR => first | with_reducible assumption | assumption); (case kA => first | with_reducible assumption | exact Around.frames_deeper (Below.stack (by with_reducible assumption)) | exact rfl); (case kF => first | with_reducible assumption | exact rfl); (case kK => first | with_reducible assumption | exact rfl); k_whole; intro AA g' L' h' m' tk hq0 hq1 hq2 R' hA' FG' F' N' B' X' T'; (try k_fold))))
local macro_rules | `(tactic| walk_at "call ref cons") => `(tactic| (k_here; (with_reducible show wpAny _ _ (call (Value.ref 1117) [_]) _ _ _); refine wpAny_call ?_; refine' ent1117 ?kR ?k1 ?k2 ?k3 ?k4 ?k5 ?kA ?kF ?kK ?_; k_dflt ((case k2 => k_asm); (case k4 => k_asm); (case k1 => k_asm); (case k3 => k_asm); (case k5 => k_asm); (case kR => first | with_reducible assumption | assumption); (case kA => first | with_reducible assumption | exact Around.frames_deeper (Below.stack (by with_reducible assumption)) | exact rfl); (case kF => first | with_reducible assumption | exact rfl); (case kK => first | with_reducible assumption | exact rfl); k_whole; intro AA g' L' h' m' tk hq0 hq1 hq2 R' hA' FG' F' N' B' X' T'; (try k_fold))))
local macro_rules | `(tactic| walk_at "call ref cons") => `(tactic| (k_here; (with_reducible show wpAny _ _ (call (Value.ref 1124) [_]) _ _ _); refine wpAny_call ?_; refine' ent1124 ?kR ?k1 ?k2 ?k3 ?k4 ?k5 ?kA ?kF ?kK ?_; k_dflt ((case k2 => k_asm); (case k4 => k_asm); (case k1 => k_asm); (case k3 => k_asm); (case k5 => k_asm); (case kR => first | with_reducible assumption | assumption); (case kA => first | with_reducible assumption | exact Around.frames_deeper (Below.stack (by with_reducible assumption)) | exact rfl); (case kF => first | with_reducible assumption | exact rfl); (case kK => first | with_reducible assumption | exact rfl); k_whole; intro AA g' L' h' m' tk hq0 hq1 hq2 R' hA' FG' F' N' B' X' T'; (try k_fold))))
local macro_rules | `(tactic| walk_at "call ref cons") => `(tactic| (k_here; (with_reducible show wpAny _ _ (call (Value.ref 1131) [_]) _ _ _); refine wpAny_call ?_; refine' ent1131 ?kR ?k1 ?k2 ?k3 ?k4 ?k5 ?kA ?kF ?kK ?_; k_dflt ((case k2 => k_asm); (case k4 => k_asm); (case k1 => k_asm); (case k3 => k_asm); (case k5 => k_asm); (case kR => first | with_reducible assumption | assumption); (case kA => first | with_reducible assumption | exact Around.frames_deeper (Below.stack (by with_reducible assumption)) | exact rfl); (case kF => first | with_reducible assumption | exact rfl); (case kK => first | with_reducible assumption | exact rfl); k_whole; intro AA g' L' h' m' tk hq0 hq1 hq2 R' hA' FG' F' N' B' X' T'; (try k_fold))))
local macro_rules | `(tactic| walk_at "call ref cons") => `(tactic| (k_here; (with_reducible show wpAny _ _ (call (Value.ref 1138) [_]) _ _ _); refine wpAny_call ?_; refine' ent1138 ?kR ?k1 ?k2 ?k3 ?k4 ?k5 ?kA ?kF ?kK ?_; k_dflt ((case k2 => k_asm); (case k4 => k_asm); (case k1 => k_asm); (case k3 => k_asm); (case k5 => k_asm); (case kR => first | with_reducible assumption | assumption); (case kA => first | with_reducible assumption | exact Around.frames_deeper (Below.stack (by with_reducible assumption)) | exact rfl); (case kF => first | with_reducible assumption | exact rfl); (case kK => first | with_reducible assumption | exact rfl); k_whole; intro AA g' L' h' m' tk hq0 hq1 hq2 R' hA' FG' F' N' B' X' T'; (try k_fold))))
local macro_rules | `(tactic| walk_at "call ref cons") => `(tactic| (k_here; (with_reducible show wpAny _ _ (call (Value.ref 926) [_]) _ _ _); refine wpAny_call ?_; refine' ent926d ?kR ?k1 ?k2 ?k3 ?k4 ?k5 ?kA ?kF ?kK ?_; k_dflt ((case k2 => k_asm); (case k4 => k_asm); (case k1 => k_asm); (case k3 => k_asm); (case k5 => k_asm); (case kR => first | with_reducible assumption | assumption); (case kA => first | with_reducible assumption | exact Around.frames_deeper (Below.stack (by with_reducible assumption)) | exact rfl); (case kF => first | with_reducible assumption | exact rfl); (case kK => first | with_reducible assumption | exact rfl); k_whole; intro AA g' L' h' m' tk hq0 hq1 hq2 hq3 hq4 hq5 hq6 hq7 R' hA' FG' F' N' B' X' T'; (try k_fold))))
local macro_rules | `(tactic| walk_at "call ref cons") => `(tactic| (k_here; (with_reducible show wpAny _ _ (call (Value.ref 934) [_]) _ _ _); refine wpAny_call ?_; refine' ent934d ?kR ?k1 ?k2 ?k3 ?k4 ?k5 ?kA ?kF ?kK ?_; k_dflt ((case k2 => k_asm); (case k4 => k_asm); (case k1 => k_asm); (case k3 => k_asm); (case k5 => k_asm); (case kR => first | with_reducible assumption | assumption); (case kA => first | with_reducible assumption | exact Around.frames_deeper (Below.stack (by with_reducible assumption)) | exact rfl); (case kF => first | with_reducible assumption | exact rfl); (case kK => first | with_reducible assumption | exact rfl); k_whole; intro AA g' L' h' m' tk hq0 hq1 hq2 hq3 hq4 hq5 hq6 hq7 R' hA' FG' F' N' B' X' T'; (try k_fold))))
local macro_rules | `(tactic| walk_at "call ref cons") => `(tactic| (k_here; (with_reducible show wpAny _ _ (call (Value.ref 1081) [_]) _ _ _); refine wpAny_call ?_; refine' ent1081d ?kR ?k1 ?k2 ?k3 ?k4 ?k5 ?kA ?kF ?kK ?_; k_dflt ((case k2 => k_asm); (case k4 => k_asm); (case k1 => k_asm); (case k3 => k_asm); (case k5 => k_asm); (case kR => first | with_reducible assumption | assumption); (case kA => first | with_reducible assumption | exact Around.frames_deeper (Below.stack (by with_reducible assumption)) | exact rfl); (case kF => first | with_reducible assumption | exact rfl); (case kK => first | with_reducible assumption | exact rfl); k_whole; intro AA g' L' h' m' tk hq0 hq1 hq2 hq3 hq4 hq5 R' hA' FG' F' N' B' X' T'; (try k_fold))))
local macro_rules | `(tactic| walk_at "call ref cons") => `(tactic| (k_here; (with_reducible show wpAny _ _ (call (Value.ref 1089) [_]) _ _ _); refine wpAny_call ?_; refine' ent1089d ?kR ?k1 ?k2 ?k3 ?k4 ?k5 ?kA ?kF ?kK ?_; k_dflt ((case k2 => k_asm); (case k4 => k_asm); (case k1 => k_asm); (case k3 => k_asm); (case k5 => k_asm); (case kR => first | with_reducible assumption | assumption); (case kA => first | with_reducible assumption | exact Around.frames_deeper (Below.stack (by with_reducible assumption)) | exact rfl); (case kF => first | with_reducible assumption | exact rfl); (case kK => first | with_reducible assumption | exact rfl); k_whole; intro AA g' L' h' m' tk hq0 hq1 hq2 hq3 hq4 hq5 R' hA' FG' F' N' B' X' T'; (try k_fold))))
local macro_rules | `(tactic| walk_at "MY cls") => `(tactic| (k_dflt (refine' call_cls ?k1 ?k2 ?k3 ?k4 ?k5 ?k6 ?_; (case k1 => k_asm); (case k2 => k_asm); (case k3 => k_asm); (case k4 => k_is); (case k5 => k_is); (case k6 => k_is); k_whole; intro x' d' h' F' N' l1 l2; (try k_sweep))))

theorem newMsg (w : World) (sent : Int) (b : Array UInt8) (wide : Bool) (t u : Tok) : NewMsg w sent t b u wide := by
  unfold NewMsg Ctx msgS
  k_fill
  intro rest p loose mean mg mb A env outer A₀ base h₀ L m s Q E B F X N T hA hf hke hR hret
  walk_at "MY cls"
  rename_i x d h' F' N' l1 l2
  have hxd : x ≠ d := fun e => by subst e; exact Nat.lt_irrefl _ l2
  have hr : ∀ q ∈ rest, q.1 ≠ x := fun q hq => Nat.ne_of_lt (Nat.lt_trans (l1 q hq) l2)
  have hR' := hR.make (C := 1163) (pos := []) (kw := [(Str.ofString "arbitration_id", .int sent t), (Str.ofString "data", .bytes b u), (Str.ofString "extended_id", .bool wide)])
  k_dflt (refine' enter nMsg gMsg [.ref x, .int sent t, .int 0 1852, .bytes b u, .bool wide, .bool false, .bool false] ?kR ?k1 ?k2 ?k3 ?k4 ?k5 ?kA ?kF ?kK ?k6 ?k7 ?k9 nMsg_nd nMsg_l gMsg_g nMsg_d gMsg_d ?_ ?c2 ?c3 ?c4 ?c5; (case kR => assumption); (case kA => exact hA); (case kF => exact hf); (case kK => exact hke); (case k1 => k_asm); (case k2 => k_asm); (case k3 => k_asm); (case k4 => k_asm); (case k5 => k_asm); (case k6 => k_is); (case k7 => k_is); (case k9 => (refine' binds_K ?x ?q1 ?qk ?q2 ?q3 ?q4; (case x => k_in); (case q1 => exact rfl); (case qk => k_is); (case q2 => exact rfl); (case q3 => exact rfl); (case q4 => kernel_rfl))); (case c5 => decide); (case c2 => exact rfl); (case c3 => exact rfl); (case c4 => exact rfl); k_whole; intro AA g' L' h' m' tk hm hml hmg hmd hme R' hA' FG' F' N' B' X' T'; (try k_fold))
  simp only [nMsg, List.zip_cons_cons, List.zip_nil_right, List.forall_mem_cons, List.not_mem_nil, false_implies, implies_true, and_true] at hm
  simp only [nMsg, List.forall_mem_cons, List.not_mem_nil, false_implies, implies_true, and_true] at hml
  simp only [nMsg, List.forall_mem_cons, List.not_mem_nil, false_implies, implies_true, and_true] at hmd
  obtain ⟨hd0, hd1, hd2, hd3, hd4, hd5, hd6⟩ := hmd
  obtain ⟨hl0, hl1, hl2, hl3, hl4, hl5, hl6⟩ := hml
  obtain ⟨hm0, hm1, hm2, hm3, hm4, hm5, hm6⟩ := hm
  clear hR hR' hA hf hke B
  replace N' : News g' L' h' ((x, msgO d #[]) :: (d, dictOf [] 0) :: rest) := N'
  w_top off
  repeat (first | (k_unfold; (try dsimp only)) | walk1 | (dsimp only; walk1) | (leave1; try dsimp only))
  refine' msg_end hret l1 l2 ?F ?N ?e
  case F => k_asm
  case N => k_asm
  case e => kernel_rfl

theorem m_getTx (w : World) (al : List (Nat × Value)) (u : Value) (e15 : al.lookup 15 = some (u)) (hu : handedIn u = true) (no : ∀ i, 20 ≤ i → al.lookup i = none) : Meth w al 926 [] (fun v => v = u) := by
  unfold Meth
  k_fill
  intro p loose mean mg mb A env outer A₀ base h₀ L m s Q E j news x d es n B F X N T hA hf hke hR h1 h2 H hret
  
  refine wpAny_call ?_
  k_dflt (refine' ent926d ?kR ?k1 ?k2 ?k3 ?k4 ?k5 ?kA ?kF ?kK ?_; (case kR => assumption); (case kA => exact hA); (case kF => exact hf); (case kK => exact hke); (case k1 => k_asm); (case k2 => k_asm); (case k3 => k_asm); (case k4 => k_asm); (case k5 => k_asm); k_whole; intro AA g' L' h' m' tk hq0 hq1 hq2 hq3 hq4 hq5 hq6 hq7 R' hA' FG' F' N' B' X' T'; (try k_fold))
  clear hR hA hf hke B
  w_top off
  repeat (first | (k_unfold; (try dsimp only)) | walk1 | (dsimp only; walk1) | (leave1; try dsimp only))
  
  refine' me_end hret ?F ?N ?P
  case F => k_asm
  case N => k_asm
  case P => rfl

theorem m_getTxF (w : World) (al : List (Nat × Value)) (u : Value) (e16 : al.lookup 16 = some (u)) (hu : handedIn u = true) (no : ∀ i, 20 ≤ i → al.lookup i = none) : Meth w al 926 [.ref 729] (fun v => v = u) := by
  unfold Meth
  k_fill
  intro p loose mean mg mb A env outer A₀ base h₀ L m s Q E j news x d es n B F X N T hA hf hke hR h1 h2 H hret
  
  refine wpAny_call ?_
  k_dflt (refine' ent926 ?kR ?k1 ?k2 ?k3 ?k4 ?k5 ?kA ?kF ?kK ?_; (case kR => assumption); (case kA => exact hA); (case kF => exact hf); (case kK => exact hke); (case k1 => k_asm); (case k2 => k_asm); (case k3 => k_asm); (case k4 => k_asm); (case k5 => k_asm); k_whole; intro AA g' L' h' m' tk hq0 hq1 hq2 hq3 hq4 hq5 hq6 hq7 R' hA' FG' F' N' B' X' T'; (try k_fold))
  clear hR hA hf hke B
  w_top off
  repeat (first | (k_unfold; (try dsimp only)) | walk1 | (dsimp only; walk1) | (leave1; try dsimp only))
  
  refine' me_end hret ?F ?N ?P
  case F => k_asm
  case N => k_asm
  case P => rfl

theorem m_getRx (w : World) (al : List (Nat × Value)) (u : Value) (e13 : al.lookup 13 = some (u)) (hu : handedIn u = true) (no : ∀ i, 20 ≤ i → al.lookup i = none) : Meth w al 934 [] (fun v => v = u) := by
  unfold Meth
  k_fill
  intro p loose mean mg mb A env outer A₀ base h₀ L m s Q E j news x d es n B F X N T hA hf hke hR h1 h2 H hret
  
  refine wpAny_call ?_
  k_dflt (refine' ent934d ?kR ?k1 ?k2 ?k3 ?k4 ?k5 ?kA ?kF ?kK ?_; (case kR => assumption); (case kA => exact hA); (case kF => exact hf); (case kK => exact hke); (case k1 => k_asm); (case k2 => k_asm); (case k3 => k_asm); (case k4 => k_asm); (case k5 => k_asm); k_whole; intro AA g' L' h' m' tk hq0 hq1 hq2 hq3 hq4 hq5 hq6 hq7 R' hA' FG' F' N' B' X' T'; (try k_fold))
  clear hR hA hf hke B
  w_top off
  repeat (first | (k_unfold; (try dsimp only)) | walk1 | (dsimp only; walk1) | (leave1; try dsimp only))
  
  refine' me_end hret ?F ?N ?P
  case F => k_asm
  case N => k_asm
  case P => rfl

theorem m_getRxF (w : World) (al : List (Nat × Value)) (u : Value) (e14 : al.lookup 14 = some (u)) (hu : handedIn u = true) (no : ∀ i, 20 ≤ i → al.lookup i = none) : Meth w al 934 [.ref 729] (fun v => v = u) := by
  unfold Meth
  k_fill
  intro p loose mean mg mb A env outer A₀ base h₀ L m s Q E j news x d es n B F X N T hA hf hke hR h1 h2 H hret
  
  refine wpAny_call ?_
  k_dflt (refine' ent934 ?kR ?k1 ?k2 ?k3 ?k4 ?k5 ?kA ?kF ?kK ?_; (case kR => assumption); (case kA => exact hA); (case kF => exact hf); (case kK => exact hke); (case k1 => k_asm); (case k2 => k_asm); (case k3 => k_asm); (case k4 => k_asm); (case k5 => k_asm); k_whole; intro AA g' L' h' m' tk hq0 hq1 hq2 hq3 hq4 hq5 hq6 hq7 R' hA' FG' F' N' B' X' T'; (try k_fold))
  clear hR hA hf hke B
  w_top off
  repeat (first | (k_unfold; (try dsimp only)) | walk1 | (dsimp only; walk1) | (leave1; try dsimp only))
  
  refine' me_end hret ?F ?N ?P
  case F => k_asm
  case N => k_asm
  case P => rfl

theorem m_getTxP (w : World) (al : List (Nat × Value)) (u : Value) (e15 : al.lookup 15 = some (u)) (hu : handedIn u = true) (no : ∀ i, 20 ≤ i → al.lookup i = none) : Meth w al 926 [.ref 727] (fun v => v = u) := by
  unfold Meth
  k_fill
  intro p loose mean mg mb A env outer A₀ base h₀ L m s Q E j news x d es n B F X N T hA hf hke hR h1 h2 H hret
  
  refine wpAny_call ?_
  k_dflt (refine' ent926 ?kR ?k1 ?k2 ?k3 ?k4 ?k5 ?kA ?kF ?kK ?_; (case kR => assumption); (case kA => exact hA); (case kF => exact hf); (case kK => exact hke); (case k1 => k_asm); (case k2 => k_asm); (case k3 => k_asm); (case k4 => k_asm); (case k5 => k_asm); k_whole; intro AA g' L' h' m' tk hq0 hq1 hq2 hq3 hq4 hq5 hq6 hq7 R' hA' FG' F' N' B' X' T'; (try k_fold))
  clear hR hA hf hke B
  w_top off
  repeat (first | (k_unfold; (try dsimp only)) | walk1 | (dsimp only; walk1) | (leave1; try dsimp only))
  
  refine' me_end hret ?F ?N ?P
  case F => k_asm
  case N => k_asm
  case P => rfl

theorem m_getRxP (w : World) (al : List (Nat × Value)) (u : Value) (e13 : al.lookup 13 = some (u)) (hu : handedIn u = true) (no : ∀ i, 20 ≤ i → al.lookup i = none) : Meth w al 934 [.ref 727] (fun v => v = u) := by
  unfold Meth
  k_fill
  intro p loose mean mg mb A env outer A₀ base h₀ L m s Q E j news x d es n B F X N T hA hf hke hR h1 h2 H hret
  
  refine wpAny_call ?_
  k_dflt (refine' ent934 ?kR ?k1 ?k2 ?k3 ?k4 ?k5 ?kA ?kF ?kK ?_; (case kR => assumption); (case kA => exact hA); (case kF => exact hf); (case kK => exact hke); (case k1 => k_asm); (case k2 => k_asm); (case k3 => k_asm); (case k4 => k_asm); (case k5 => k_asm); k_whole; intro AA g' L' h' m' tk hq0 hq1 hq2 hq3 hq4 hq5 hq6 hq7 R' hA' FG' F' N' B' X' T'; (try k_fold))
  clear hR hA hf hke B
  w_top off
  repeat (first | (k_unfold; (try dsimp only)) | walk1 | (dsimp only; walk1) | (leave1; try dsimp only))
  
  refine' me_end hret ?F ?N ?P
  case F => k_asm
  case N => k_asm
  case P => rfl

theorem m_pfx (w : World) (al : List (Nat × Value)) (u : Value) (e11 : al.lookup 11 = some (u)) (hu : handedIn u = true) (no : ∀ i, 20 ≤ i → al.lookup i = none) : Meth w al 911 [] (fun v => v = u) := by
  unfold Meth
  k_fill
  intro p loose mean mg mb A env outer A₀ base h₀ L m s Q E j news x d es n B F X N T hA hf hke hR h1 h2 H hret
  
  refine wpAny_call ?_
  k_dflt (refine' ent911 ?kR ?k1 ?k2 ?k3 ?k4 ?k5 ?kA ?kF ?kK ?_; (case kR => assumption); (case kA => exact hA); (case kF => exact hf); (case kK => exact hke); (case k1 => k_asm); (case k2 => k_asm); (case k3 => k_asm); (case k4 => k_asm); (case k5 => k_asm); k_whole; intro AA g' L' h' m' tk hq0 hq1 hq2 R' hA' FG' F' N' B' X' T'; (try k_fold))
  clear hR hA hf hke B
  w_top off
  repeat (first | (k_unfold; (try dsimp only)) | walk1 | (dsimp only; walk1) | (leave1; try dsimp only))
  
  refine' me_end hret ?F ?N ?P
  case F => k_asm
  case N => k_asm
  case P => rfl

theorem m_psz (w : World) (al : List (Nat × Value)) (u : Value) (e12 : al.lookup 12 = some (u)) (hu : handedIn u = true) (no : ∀ i, 20 ≤ i → al.lookup i = none) : Meth w al 904 [] (fun v => v = u) := by
  unfold Meth
  k_fill
  intro p loose mean mg mb A env outer A₀ base h₀ L m s Q E j news x d es n B F X N T hA hf hke hR h1 h2 H hret
  
  refine wpAny_call ?_
  k_dflt (refine' ent904 ?kR ?k1 ?k2 ?k3 ?k4 ?k5 ?kA ?kF ?kK ?_; (case kR => assumption); (case kA => exact hA); (case kF => exact hf); (case kK => exact hke); (case k1 => k_asm); (case k2 => k_asm); (case k3 => k_asm); (case k4 => k_asm); (case k5 => k_asm); k_whole; intro AA g' L' h' m' tk hq0 hq1 hq2 R' hA' FG' F' N' B' X' T'; (try k_fold))
  clear hR hA hf hke B
  w_top off
  repeat (first | (k_unfold; (try dsimp only)) | walk1 | (dsimp only; walk1) | (leave1; try dsimp only))
  
  refine' me_end hret ?F ?N ?P
  case F => k_asm
  case N => k_asm
  case P => rfl

theorem m_tx29 (w : World) (al : List (Nat × Value)) (u : Value) (e8 : al.lookup 8 = some (u)) (hu : handedIn u = true) (no : ∀ i, 20 ≤ i → al.lookup i = none) : Meth w al 1026 [] (fun v => v = u) := by
  unfold Meth
  k_fill
  intro p loose mean mg mb A env outer A₀ base h₀ L m s Q E j news x d es n B F X N T hA hf hke hR h1 h2 H hret
  
  refine wpAny_call ?_
  k_dflt (refine' ent1026 ?kR ?k1 ?k2 ?k3 ?k4 ?k5 ?kA ?kF ?kK ?_; (case kR => assumption); (case kA => exact hA); (case kF => exact hf); (case kK => exact hke); (case k1 => k_asm); (case k2 => k_asm); (case k3 => k_asm); (case k4 => k_asm); (case k5 => k_asm); k_whole; intro AA g' L' h' m' tk hq0 hq1 hq2 R' hA' FG' F' N' B' X' T'; (try k_fold))
  clear hR hA hf hke B
  w_top off
  repeat (first | (k_unfold; (try dsimp only)) | walk1 | (dsimp only; walk1) | (leave1; try dsimp only))
  
  refine' me_end hret ?F ?N ?P
  case F => k_asm
  case N => k_asm
  case P => rfl

theorem m_rx29 (w : World) (al : List (Nat × Value)) (u : Value) (e8 : al.lookup 8 = some (u)) (hu : handedIn u = true) (no : ∀ i, 20 ≤ i → al.lookup i = none) : Meth w al 1033 [] (fun v => v = u) := by
  unfold Meth
  k_fill
  intro p loose mean mg mb A env outer A₀ base h₀ L m s Q E j news x d es n B F X N T hA hf hke hR h1 h2 H hret
  
  refine wpAny_call ?_
  k_dflt (refine' ent1033 ?kR ?k1 ?k2 ?k3 ?k4 ?k5 ?kA ?kF ?kK ?_; (case kR => assumption); (case kA => exact hA); (case kF => exact hf); (case kK => exact hke); (case k1 => k_asm); (case k2 => k_asm); (case k3 => k_asm); (case k4 => k_asm); (case k5 => k_asm); k_whole; intro AA g' L' h' m' tk hq0 hq1 hq2 R' hA' FG' F' N' B' X' T'; (try k_fold))
  clear hR hA hf hke B
  w_top off
  repeat (first | (k_unfold; (try dsimp only)) | walk1 | (dsimp only; walk1) | (leave1; try dsimp only))
  
  refine' me_end hret ?F ?N ?P
  case F => k_asm
  case N => k_asm
  case P => rfl

theorem m_txOnly (w : World) (al : List (Nat × Value)) (u : Value) (e1 : al.lookup 1 = some (u)) (hu : handedIn u = true) (no : ∀ i, 20 ≤ i → al.lookup i = none) : Meth w al 890 [] (fun v => v = u) := by
  unfold Meth
  k_fill
  intro p loose mean mg mb A env outer A₀ base h₀ L m s Q E j news x d es n B F X N T hA hf hke hR h1 h2 H hret
  
  refine wpAny_call ?_
  k_dflt (refine' ent890 ?kR ?k1 ?k2 ?k3 ?k4 ?k5 ?kA ?kF ?kK ?_; (case kR => assumption); (case kA => exact hA); (case kF => exact hf); (case kK => exact hke); (case k1 => k_asm); (case k2 => k_asm); (case k3 => k_asm); (case k4 => k_asm); (case k5 => k_asm); k_whole; intro AA g' L' h' m' tk hq0 hq1 hq2 R' hA' FG' F' N' B' X' T'; (try k_fold))
  clear hR hA hf hke B
  w_top off
  repeat (first | (k_unfold; (try dsimp only)) | walk1 | (dsimp only; walk1) | (leave1; try dsimp only))
  
  refine' me_end hret ?F ?N ?P
  case F => k_asm
  case N => k_asm
  case P => rfl

theorem m_rxOnly (w : World) (al : List (Nat × Value)) (u : Value) (e0 : al.lookup 0 = some (u)) (hu : handedIn u = true) (no : ∀ i, 20 ≤ i → al.lookup i = none) : Meth w al 897 [] (fun v => v = u) := by
  unfold Meth
  k_fill
  intro p loose mean mg mb A env outer A₀ base h₀ L m s Q E j news x d es n B F X N T hA hf hke hR h1 h2 H hret
  
  refine wpAny_call ?_
  k_dflt (refine' ent897 ?kR ?k1 ?k2 ?k3 ?k4 ?k5 ?kA ?kF ?kK ?_; (case kR => assumption); (case kA => exact hA); (case kF => exact hf); (case kK => exact hke); (case k1 => k_asm); (case k2 => k_asm); (case k3 => k_asm); (case k4 => k_asm); (case k5 => k_asm); k_whole; intro AA g' L' h' m' tk hq0 hq1 hq2 R' hA' FG' F' N' B' X' T'; (try k_fold))
  clear hR hA hf hke B
  w_top off
  repeat (first | (k_unfold; (try dsimp only)) | walk1 | (dsimp only; walk1) | (leave1; try dsimp only))
  
  refine' me_end hret ?F ?N ?P
  case F => k_asm
  case N => k_asm
  case P => rfl

theorem m_part00 (w : World) (al : List (Nat × Value))  (e0 : al.lookup 0 = some (.bool false)) (e1 : al.lookup 1 = some (.bool false)) (no : ∀ i, 20 ≤ i → al.lookup i = none) : Meth w al 883 [] (fun v => v = .bool false) := by
  unfold Meth
  k_fill
  intro p loose mean mg mb A env outer A₀ base h₀ L m s Q E j news x d es n B F X N T hA hf hke hR h1 h2 H hret
  
  refine wpAny_call ?_
  k_dflt (refine' ent883 ?kR ?k1 ?k2 ?k3 ?k4 ?k5 ?kA ?kF ?kK ?_; (case kR => assumption); (case kA => exact hA); (case kF => exact hf); (case kK => exact hke); (case k1 => k_asm); (case k2 => k_asm); (case k3 => k_asm); (case k4 => k_asm); (case k5 => k_asm); k_whole; intro AA g' L' h' m' tk hq0 hq1 hq2 R' hA' FG' F' N' B' X' T'; (try k_fold))
  clear hR hA hf hke B
  w_top off
  repeat (first | (k_unfold; (try dsimp only)) | walk1 | (dsimp only; walk1) | (leave1; try dsimp only))
  
  refine' me_end hret ?F ?N ?P
  case F => k_asm
  case N => k_asm
  case P => rfl

theorem m_part10 (w : World) (al : List (Nat × Value))  (e0 : al.lookup 0 = some (.bool true)) (e1 : al.lookup 1 = some (.bool false)) (no : ∀ i, 20 ≤ i → al.lookup i = none) : Meth w al 883 [] (fun v => v = .bool true) := by
  unfold Meth
  k_fill
  intro p loose mean mg mb A env outer A₀ base h₀ L m s Q E j news x d es n B F X N T hA hf hke hR h1 h2 H hret
  
  refine wpAny_call ?_
  k_dflt (refine' ent883 ?kR ?k1 ?k2 ?k3 ?k4 ?k5 ?kA ?kF ?kK ?_; (case kR => assumption); (case kA => exact hA); (case kF => exact hf); (case kK => exact hke); (case k1 => k_asm); (case k2 => k_asm); (case k3 => k_asm); (case k4 => k_asm); (case k5 => k_asm); k_whole; intro AA g' L' h' m' tk hq0 hq1 hq2 R' hA' FG' F' N' B' X' T'; (try k_fold))
  clear hR hA hf hke B
  w_top off
  repeat (first | (k_unfold; (try dsimp only)) | walk1 | (dsimp only; walk1) | (leave1; try dsimp only))
  
  refine' me_end hret ?F ?N ?P
  case F => k_asm
  case N => k_asm
  case P => rfl

theorem m_part01 (w : World) (al : List (Nat × Value))  (e0 : al.lookup 0 = some (.bool false)) (e1 : al.lookup 1 = some (.bool true)) (no : ∀ i, 20 ≤ i → al.lookup i = none) : Meth w al 883 [] (fun v => v = .bool true) := by
  unfold Meth
  k_fill
  intro p loose mean mg mb A env outer A₀ base h₀ L m s Q E j news x d es n B F X N T hA hf hke hR h1 h2 H hret
  
  refine wpAny_call ?_
  k_dflt (refine' ent883 ?kR ?k1 ?k2 ?k3 ?k4 ?k5 ?kA ?kF ?kK ?_; (case kR => assumption); (case kA => exact hA); (case kF => exact hf); (case kK => exact hke); (case k1 => k_asm); (case k2 => k_asm); (case k3 => k_asm); (case k4 => k_asm); (case k5 => k_asm); k_whole; intro AA g' L' h' m' tk hq0 hq1 hq2 R' hA' FG' F' N' B' X' T'; (try k_fold))
  clear hR hA hf hke B
  w_top off
  repeat (first | (k_unfold; (try dsimp only)) | walk1 | (dsimp only; walk1) | (leave1; try dsimp only))
  
  refine' me_end hret ?F ?N ?P
  case F => k_asm
  case N => k_asm
  case P => rfl

theorem m_reqRx_N11 (w : World) (al : List (Nat × Value))  (e2 : al.lookup 2 = some (.ref 643)) (no : ∀ i, 20 ≤ i → al.lookup i = none) : Meth w al 998 [] (fun v => v = .bool false) := by
  unfold Meth
  k_fill
  intro p loose mean mg mb A env outer A₀ base h₀ L m s Q E j news x d es n B F X N T hA hf hke hR h1 h2 H hret
  
  refine wpAny_call ?_
  k_dflt (refine' ent998 ?kR ?k1 ?k2 ?k3 ?k4 ?k5 ?kA ?kF ?kK ?_; (case kR => assumption); (case kA => exact hA); (case kF => exact hf); (case kK => exact hke); (case k1 => k_asm); (case k2 => k_asm); (case k3 => k_asm); (case k4 => k_asm); (case k5 => k_asm); k_whole; intro AA g' L' h' m' tk hq0 hq1 hq2 R' hA' FG' F' N' B' X' T'; (try k_fold))
  clear hR hA hf hke B
  w_top off
  repeat (first | (k_unfold; (try dsimp only)) | walk1 | (dsimp only; walk1) | (leave1; try dsimp only))
  
  refine' me_end hret ?F ?N ?P
  case F => k_asm
  case N => k_asm
  case P => rfl

theorem m_reqTx_N11 (w : World) (al : List (Nat × Value))  (e2 : al.lookup 2 = some (.ref 643)) (no : ∀ i, 20 ≤ i → al.lookup i = none) : Meth w al 1005 [] (fun v => v = .bool false) := by
  unfold Meth
  k_fill
  intro p loose mean mg mb A env outer A₀ base h₀ L m s Q E j news x d es n B F X N T hA hf hke hR h1 h2 H hret
  
  refine wpAny_call ?_
  k_dflt (refine' ent1005 ?kR ?k1 ?k2 ?k3 ?k4 ?k5 ?kA ?kF ?kK ?_; (case kR => assumption); (case kA => exact hA); (case kF => exact hf); (case kK => exact hke); (case k1 => k_asm); (case k2 => k_asm); (case k3 => k_asm); (case k4 => k_asm); (case k5 => k_asm); k_whole; intro AA g' L' h' m' tk hq0 hq1 hq2 R' hA' FG' F' N' B' X' T'; (try k_fold))
  clear hR hA hf hke B
  w_top off
  repeat (first | (k_unfold; (try dsimp only)) | walk1 | (dsimp only; walk1) | (leave1; try dsimp only))
  
  refine' me_end hret ?F ?N ?P
  case F => k_asm
  case N => k_asm
  case P => rfl

theorem m_txExt_N11 (w : World) (al : List (Nat × Value))  (e2 : al.lookup 2 = some (.ref 643)) (no : ∀ i, 20 ≤ i → al.lookup i = none) : Meth w al 1012 [] (fun v => v = .none) := by
  unfold Meth
  k_fill
  intro p loose mean mg mb A env outer A₀ base h₀ L m s Q E j news x d es n B F X N T hA hf hke hR h1 h2 H hret
  
  refine wpAny_call ?_
  k_dflt (refine' ent1012 ?kR ?k1 ?k2 ?k3 ?k4 ?k5 ?kA ?kF ?kK ?_; (case kR => assumption); (case kA => exact hA); (case kF => exact hf); (case kK => exact hke); (case k1 => k_asm); (case k2 => k_asm); (case k3 => k_asm); (case k4 => k_asm); (case k5 => k_asm); k_whole; intro AA g' L' h' m' tk hq0 hq1 hq2 hq3 hq4 R' hA' FG' F' N' B' X' T'; (try k_fold))
  clear hR hA hf hke B
  w_top off
  repeat (first | (k_unfold; (try dsimp only)) | walk1 | (dsimp only; walk1) | (leave1; try dsimp only))
  
  refine' me_end hret ?F ?N ?P
  case F => k_asm
  case N => k_asm
  case P => rfl

theorem m_rxExt_N11 (w : World) (al : List (Nat × Value))  (e2 : al.lookup 2 = some (.ref 643)) (no : ∀ i, 20 ≤ i → al.lookup i = none) : Meth w al 1019 [] (fun v => v = .none) := by
  unfold Meth
  k_fill
  intro p loose mean mg mb A env outer A₀ base h₀ L m s Q E j news x d es n B F X N T hA hf hke hR h1 h2 H hret
  
  refine wpAny_call ?_
  k_dflt (refine' ent1019 ?kR ?k1 ?k2 ?k3 ?k4 ?k5 ?kA ?kF ?kK ?_; (case kR => assumption); (case kA => exact hA); (case kF => exact hf); (case kK => exact hke); (case k1 => k_asm); (case k2 => k_asm); (case k3 => k_asm); (case k4 => k_asm); (case k5 => k_asm); k_whole; intro AA g' L' h' m' tk hq0 hq1 hq2 hq3 hq4 R' hA' FG' F' N' B' X' T'; (try k_fold))
  clear hR hA hf hke B
  w_top off
  repeat (first | (k_unfold; (try dsimp only)) | walk1 | (dsimp only; walk1) | (leave1; try dsimp only))
  
  refine' me_end hret ?F ?N ?P
  case F => k_asm
  case N => k_asm
  case P => rfl

theorem m_reqRx_N29 (w : World) (al : List (Nat × Value))  (e2 : al.lookup 2 = some (.ref 645)) (no : ∀ i, 20 ≤ i → al.lookup i = none) : Meth w al 998 [] (fun v => v = .bool false) := by
  unfold Meth
  k_fill
  intro p loose mean mg mb A env outer A₀ base h₀ L m s Q E j news x d es n B F X N T hA hf hke hR h1 h2 H hret
  
  refine wpAny_call ?_
  k_dflt (refine' ent998 ?kR ?k1 ?k2 ?k3 ?k4 ?k5 ?kA ?kF ?kK ?_; (case kR => assumption); (case kA => exact hA); (case kF => exact hf); (case kK => exact hke); (case k1 => k_asm); (case k2 => k_asm); (case k3 => k_asm); (case k4 => k_asm); (case k5 => k_asm); k_whole; intro AA g' L' h' m' tk hq0 hq1 hq2 R' hA' FG' F' N' B' X' T'; (try k_fold))
  clear hR hA hf hke B
  w_top off
  repeat (first | (k_unfold; (try dsimp only)) | walk1 | (dsimp only; walk1) | (leave1; try dsimp only))
  
  refine' me_end hret ?F ?N ?P
  case F => k_asm
  case N => k_asm
  case P => rfl

theorem m_reqTx_N29 (w : World) (al : List (Nat × Value))  (e2 : al.lookup 2 = some (.ref 645)) (no : ∀ i, 20 ≤ i → al.lookup i = none) : Meth w al 1005 [] (fun v => v = .bool false) := by
  unfold Meth
  k_fill
  intro p loose mean mg mb A env outer A₀ base h₀ L m s Q E j news x d es n B F X N T hA hf hke hR h1 h2 H hret
  
  refine wpAny_call ?_
  k_dflt (refine' ent1005 ?kR ?k1 ?k2 ?k3 ?k4 ?k5 ?kA ?kF ?kK ?_; (case kR => assumption); (case kA => exact hA); (case kF => exact hf); (case kK => exact hke); (case k1 => k_asm); (case k2 => k_asm); (case k3 => k_asm); (case k4 => k_asm); (case k5 => k_asm); k_whole; intro AA g' L' h' m' tk hq0 hq1 hq2 R' hA' FG' F' N' B' X' T'; (try k_fold))
  clear hR hA hf hke B
  w_top off
  repeat (first | (k_unfold; (try dsimp only)) | walk1 | (dsimp only; walk1) | (leave1; try dsimp only))
  
  refine' me_end hret ?F ?N ?P
  case F => k_asm
  case N => k_asm
  case P => rfl

theorem m_txExt_N29 (w : World) (al : List (Nat × Value))  (e2 : al.lookup 2 = some (.ref 645)) (no : ∀ i, 20 ≤ i → al.lookup i = none) : Meth w al 1012 [] (fun v => v = .none) := by
  unfold Meth
  k_fill
  intro p loose mean mg mb A env outer A₀ base h₀ L m s Q E j news x d es n B F X N T hA hf hke hR h1 h2 H hret
  
  refine wpAny_call ?_
  k_dflt (refine' ent1012 ?kR ?k1 ?k2 ?k3 ?k4 ?k5 ?kA ?kF ?kK ?_; (case kR => assumption); (case kA => exact hA); (case kF => exact hf); (case kK => exact hke); (case k1 => k_asm); (case k2 => k_asm); (case k3 => k_asm); (case k4 => k_asm); (case k5 => k_asm); k_whole; intro AA g' L' h' m' tk hq0 hq1 hq2 hq3 hq4 R' hA' FG' F' N' B' X' T'; (try k_fold))
  clear hR hA hf hke B
  w_top off
  repeat (first | (k_unfold; (try dsimp only)) | walk1 | (dsimp only; walk1) | (leave1; try dsimp only))
  
  refine' me_end hret ?F ?N ?P
  case F => k_asm
  case N => k_asm
  case P => rfl

theorem m_rxExt_N29 (w : World) (al : List (Nat × Value))  (e2 : al.lookup 2 = some (.ref 645)) (no : ∀ i, 20 ≤ i → al.lookup i = none) : Meth w al 1019 [] (fun v => v = .none) := by
  unfold Meth
  k_fill
  intro p loose mean mg mb A env outer A₀ base h₀ L m s Q E j news x d es n B F X N T hA hf hke hR h1 h2 H hret
  
  refine wpAny_call ?_
  k_dflt (refine' ent1019 ?kR ?k1 ?k2 ?k3 ?k4 ?k5 ?kA ?kF ?kK ?_; (case kR => assumption); (case kA => exact hA); (case kF => exact hf); (case kK => exact hke); (case k1 => k_asm); (case k2 => k_asm); (case k3 => k_asm); (case k4 => k_asm); (case k5 => k_asm); k_whole; intro AA g' L' h' m' tk hq0 hq1 hq2 hq3 hq4 R' hA' FG' F' N' B' X' T'; (try k_fold))
  clear hR hA hf hke B
  w_top off
  repeat (first | (k_unfold; (try dsimp only)) | walk1 | (dsimp only; walk1) | (leave1; try dsimp only))
  
  refine' me_end hret ?F ?N ?P
  case F => k_asm
  case N => k_asm
  case P => rfl

theorem m_reqRx_NF29 (w : World) (al : List (Nat × Value))  (e2 : al.lookup 2 = some (.ref 647)) (no : ∀ i, 20 ≤ i → al.lookup i = none) : Meth w al 998 [] (fun v => v = .bool false) := by
  unfold Meth
  k_fill
  intro p loose mean mg mb A env outer A₀ base h₀ L m s Q E j news x d es n B F X N T hA hf hke hR h1 h2 H hret
  
  refine wpAny_call ?_
  k_dflt (refine' ent998 ?kR ?k1 ?k2 ?k3 ?k4 ?k5 ?kA ?kF ?kK ?_; (case kR => assumption); (case kA => exact hA); (case kF => exact hf); (case kK => exact hke); (case k1 => k_asm); (case k2 => k_asm); (case k3 => k_asm); (case k4 => k_asm); (case k5 => k_asm); k_whole; intro AA g' L' h' m' tk hq0 hq1 hq2 R' hA' FG' F' N' B' X' T'; (try k_fold))
  clear hR hA hf hke B
  w_top off
  repeat (first | (k_unfold; (try dsimp only)) | walk1 | (dsimp only; walk1) | (leave1; try dsimp only))
  
  refine' me_end hret ?F ?N ?P
  case F => k_asm
  case N => k_asm
  case P => rfl

theorem m_reqTx_NF29 (w : World) (al : List (Nat × Value))  (e2 : al.lookup 2 = some (.ref 647)) (no : ∀ i, 20 ≤ i → al.lookup i = none) : Meth w al 1005 [] (fun v => v = .bool false) := by
  unfold Meth
  k_fill
  intro p loose mean mg mb A env outer A₀ base h₀ L m s Q E j news x d es n B F X N T hA hf hke hR h1 h2 H hret
  
  refine wpAny_call ?_
  k_dflt (refine' ent1005 ?kR ?k1 ?k2 ?k3 ?k4 ?k5 ?kA ?kF ?kK ?_; (case kR => assumption); (case kA => exact hA); (case kF => exact hf); (case kK => exact hke); (case k1 => k_asm); (case k2 => k_asm); (case k3 => k_asm); (case k4 => k_asm); (case k5 => k_asm); k_whole; intro AA g' L' h' m' tk hq0 hq1 hq2 R' hA' FG' F' N' B' X' T'; (try k_fold))
  clear hR hA hf hke B
  w_top off
  repeat (first | (k_unfold; (try dsimp only)) | walk1 | (dsimp only; walk1) | (leave1; try dsimp only))
  
  refine' me_end hret ?F ?N ?P
  case F => k_asm
  case N => k_asm
  case P => rfl

theorem m_txExt_NF29 (w : World) (al : List (Nat × Value))  (e2 : al.lookup 2 = some (.ref 647)) (no : ∀ i, 20 ≤ i → al.lookup i = none) : Meth w al 1012 [] (fun v => v = .none) := by
  unfold Meth
  k_fill
  intro p loose mean mg mb A env outer A₀ base h₀ L m s Q E j news x d es n B F X N T hA hf hke hR h1 h2 H hret
  
  refine wpAny_call ?_
  k_dflt (refine' ent1012 ?kR ?k1 ?k2 ?k3 ?k4 ?k5 ?kA ?kF ?kK ?_; (case kR => assumption); (case kA => exact hA); (case kF => exact hf); (case kK => exact hke); (case k1 => k_asm); (case k2 => k_asm); (case k3 => k_asm); (case k4 => k_asm); (case k5 => k_asm); k_whole; intro AA g' L' h' m' tk hq0 hq1 hq2 hq3 hq4 R' hA' FG' F' N' B' X' T'; (try k_fold))
  clear hR hA hf hke B
  w_top off
  repeat (first | (k_unfold; (try dsimp only)) | walk1 | (dsimp only; walk1) | (leave1; try dsimp only))
  
  refine' me_end hret ?F ?N ?P
  case F => k_asm
  case N => k_asm
  case P => rfl

theorem m_rxExt_NF29 (w : World) (al : List (Nat × Value))  (e2 : al.lookup 2 = some (.ref 647)) (no : ∀ i, 20 ≤ i → al.lookup i = none) : Meth w al 1019 [] (fun v => v = .none) := by
  unfold Meth
  k_fill
  intro p loose mean mg mb A env outer A₀ base h₀ L m s Q E j news x d es n B F X N T hA hf hke hR h1 h2 H hret
  
  refine wpAny_call ?_
  k_dflt (refine' ent1019 ?kR ?k1 ?k2 ?k3 ?k4 ?k5 ?kA ?kF ?kK ?_; (case kR => assumption); (case kA => exact hA); (case kF => exact hf); (case kK => exact hke); (case k1 => k_asm); (case k2 => k_asm); (case k3 => k_asm); (case k4 => k_asm); (case k5 => k_asm); k_whole; intro AA g' L' h' m' tk hq0 hq1 hq2 hq3 hq4 R' hA' FG' F' N' B' X' T'; (try k_fold))
  clear hR hA hf hke B
  w_top off
  repeat (first | (k_unfold; (try dsimp only)) | walk1 | (dsimp only; walk1) | (leave1; try dsimp only))
  
  refine' me_end hret ?F ?N ?P
  case F => k_asm
  case N => k_asm
  case P => rfl

theorem m_reqRx_E11 (w : World) (al : List (Nat × Value))  (e2 : al.lookup 2 = some (.ref 649)) (no : ∀ i, 20 ≤ i → al.lookup i = none) : Meth w al 998 [] (fun v => v = .bool true) := by
  unfold Meth
  k_fill
  intro p loose mean mg mb A env outer A₀ base h₀ L m s Q E j news x d es n B F X N T hA hf hke hR h1 h2 H hret
  
  refine wpAny_call ?_
  k_dflt (refine' ent998 ?kR ?k1 ?k2 ?k3 ?k4 ?k5 ?kA ?kF ?kK ?_; (case kR => assumption); (case kA => exact hA); (case kF => exact hf); (case kK => exact hke); (case k1 => k_asm); (case k2 => k_asm); (case k3 => k_asm); (case k4 => k_asm); (case k5 => k_asm); k_whole; intro AA g' L' h' m' tk hq0 hq1 hq2 R' hA' FG' F' N' B' X' T'; (try k_fold))
  clear hR hA hf hke B
  w_top off
  repeat (first | (k_unfold; (try dsimp only)) | walk1 | (dsimp only; walk1) | (leave1; try dsimp only))
  
  refine' me_end hret ?F ?N ?P
  case F => k_asm
  case N => k_asm
  case P => rfl

theorem m_reqTx_E11 (w : World) (al : List (Nat × Value))  (e2 : al.lookup 2 = some (.ref 649)) (no : ∀ i, 20 ≤ i → al.lookup i = none) : Meth w al 1005 [] (fun v => v = .bool true) := by
  unfold Meth
  k_fill
  intro p loose mean mg mb A env outer A₀ base h₀ L m s Q E j news x d es n B F X N T hA hf hke hR h1 h2 H hret
  
  refine wpAny_call ?_
  k_dflt (refine' ent1005 ?kR ?k1 ?k2 ?k3 ?k4 ?k5 ?kA ?kF ?kK ?_; (case kR => assumption); (case kA => exact hA); (case kF => exact hf); (case kK => exact hke); (case k1 => k_asm); (case k2 => k_asm); (case k3 => k_asm); (case k4 => k_asm); (case k5 => k_asm); k_whole; intro AA g' L' h' m' tk hq0 hq1 hq2 R' hA' FG' F' N' B' X' T'; (try k_fold))
  clear hR hA hf hke B
  w_top off
  repeat (first | (k_unfold; (try dsimp only)) | walk1 | (dsimp only; walk1) | (leave1; try dsimp only))
  
  refine' me_end hret ?F ?N ?P
  case F => k_asm
  case N => k_asm
  case P => rfl

theorem m_txExt_E11 (w : World) (al : List (Nat × Value)) (u : Value) (e2 : al.lookup 2 = some (.ref 649)) (e3 : al.lookup 3 = some (u)) (hu : handedIn u = true) (no : ∀ i, 20 ≤ i → al.lookup i = none) : Meth w al 1012 [] (fun v => v = u) := by
  unfold Meth
  k_fill
  intro p loose mean mg mb A env outer A₀ base h₀ L m s Q E j news x d es n B F X N T hA hf hke hR h1 h2 H hret
  
  refine wpAny_call ?_
  k_dflt (refine' ent1012 ?kR ?k1 ?k2 ?k3 ?k4 ?k5 ?kA ?kF ?kK ?_; (case kR => assumption); (case kA => exact hA); (case kF => exact hf); (case kK => exact hke); (case k1 => k_asm); (case k2 => k_asm); (case k3 => k_asm); (case k4 => k_asm); (case k5 => k_asm); k_whole; intro AA g' L' h' m' tk hq0 hq1 hq2 hq3 hq4 R' hA' FG' F' N' B' X' T'; (try k_fold))
  clear hR hA hf hke B
  w_top off
  repeat (first | (k_unfold; (try dsimp only)) | walk1 | (dsimp only; walk1) | (leave1; try dsimp only))
  
  refine' me_end hret ?F ?N ?P
  case F => k_asm
  case N => k_asm
  case P => rfl

theorem m_rxExt_E11 (w : World) (al : List (Nat × Value)) (u : Value) (e2 : al.lookup 2 = some (.ref 649)) (e4 : al.lookup 4 = some (u)) (hu : handedIn u = true) (no : ∀ i, 20 ≤ i → al.lookup i = none) : Meth w al 1019 [] (fun v => v = u) := by
  unfold Meth
  k_fill
  intro p loose mean mg mb A env outer A₀ base h₀ L m s Q E j news x d es n B F X N T hA hf hke hR h1 h2 H hret
  
  refine wpAny_call ?_
  k_dflt (refine' ent1019 ?kR ?k1 ?k2 ?k3 ?k4 ?k5 ?kA ?kF ?kK ?_; (case kR => assumption); (case kA => exact hA); (case kF => exact hf); (case kK => exact hke); (case k1 => k_asm); (case k2 => k_asm); (case k3 => k_asm); (case k4 => k_asm); (case k5 => k_asm); k_whole; intro AA g' L' h' m' tk hq0 hq1 hq2 hq3 hq4 R' hA' FG' F' N' B' X' T'; (try k_fold))
  clear hR hA hf hke B
  w_top off
  repeat (first | (k_unfold; (try dsimp only)) | walk1 | (dsimp only; walk1) | (leave1; try dsimp only))
  
  refine' me_end hret ?F ?N ?P
  case F => k_asm
  case N => k_asm
  case P => rfl

theorem m_reqRx_E29 (w : World) (al : List (Nat × Value))  (e2 : al.lookup 2 = some (.ref 651)) (no : ∀ i, 20 ≤ i → al.lookup i = none) : Meth w al 998 [] (fun v => v = .bool true) := by
  unfold Meth
  k_fill
  intro p loose mean mg mb A env outer A₀ base h₀ L m s Q E j news x d es n B F X N T hA hf hke hR h1 h2 H hret
  
  refine wpAny_call ?_
  k_dflt (refine' ent998 ?kR ?k1 ?k2 ?k3 ?k4 ?k5 ?kA ?kF ?kK ?_; (case kR => assumption); (case kA => exact hA); (case kF => exact hf); (case kK => exact hke); (case k1 => k_asm); (case k2 => k_asm); (case k3 => k_asm); (case k4 => k_asm); (case k5 => k_asm); k_whole; intro AA g' L' h' m' tk hq0 hq1 hq2 R' hA' FG' F' N' B' X' T'; (try k_fold))
  clear hR hA hf hke B
  w_top off
  repeat (first | (k_unfold; (try dsimp only)) | walk1 | (dsimp only; walk1) | (leave1; try dsimp only))
  
  refine' me_end hret ?F ?N ?P
  case F => k_asm
  case N => k_asm
  case P => rfl

theorem m_reqTx_E29 (w : World) (al : List (Nat × Value))  (e2 : al.lookup 2 = some (.ref 651)) (no : ∀ i, 20 ≤ i → al.lookup i = none) : Meth w al 1005 [] (fun v => v = .bool true) := by
  unfold Meth
  k_fill
  intro p loose mean mg mb A env outer A₀ base h₀ L m s Q E j news x d es n B F X N T hA hf hke hR h1 h2 H hret
  
  refine wpAny_call ?_
  k_dflt (refine' ent1005 ?kR ?k1 ?k2 ?k3 ?k4 ?k5 ?kA ?kF ?kK ?_; (case kR => assumption); (case kA => exact hA); (case kF => exact hf); (case kK => exact hke); (case k1 => k_asm); (case k2 => k_asm); (case k3 => k_asm); (case k4 => k_asm); (case k5 => k_asm); k_whole; intro AA g' L' h' m' tk hq0 hq1 hq2 R' hA' FG' F' N' B' X' T'; (try k_fold))
  clear hR hA hf hke B
  w_top off
  repeat (first | (k_unfold; (try dsimp only)) | walk1 | (dsimp only; walk1) | (leave1; try dsimp only))
  
  refine' me_end hret ?F ?N ?P
  case F => k_asm
  case N => k_asm
  case P => rfl

theorem m_txExt_E29 (w : World) (al : List (Nat × Value)) (u : Value) (e2 : al.lookup 2 = some (.ref 651)) (e3 : al.lookup 3 = some (u)) (hu : handedIn u = true) (no : ∀ i, 20 ≤ i → al.lookup i = none) : Meth w al 1012 [] (fun v => v = u) := by
  unfold Meth
  k_fill
  intro p loose mean mg mb A env outer A₀ base h₀ L m s Q E j news x d es n B F X N T hA hf hke hR h1 h2 H hret
  
  refine wpAny_call ?_
  k_dflt (refine' ent1012 ?kR ?k1 ?k2 ?k3 ?k4 ?k5 ?kA ?kF ?kK ?_; (case kR => assumption); (case kA => exact hA); (case kF => exact hf); (case kK => exact hke); (case k1 => k_asm); (case k2 => k_asm); (case k3 => k_asm); (case k4 => k_asm); (case k5 => k_asm); k_whole; intro AA g' L' h' m' tk hq0 hq1 hq2 hq3 hq4 R' hA' FG' F' N' B' X' T'; (try k_fold))
  clear hR hA hf hke B
  w_top off
  repeat (first | (k_unfold; (try dsimp only)) | walk1 | (dsimp only; walk1) | (leave1; try dsimp only))
  
  refine' me_end hret ?F ?N ?P
  case F => k_asm
  case N => k_asm
  case P => rfl

theorem m_rxExt_E29 (w : World) (al : List (Nat × Value)) (u : Value) (e2 : al.lookup 2 = some (.ref 651)) (e4 : al.lookup 4 = some (u)) (hu : handedIn u = true) (no : ∀ i, 20 ≤ i → al.lookup i = none) : Meth w al 1019 [] (fun v => v = u) := by
  unfold Meth
  k_fill
  intro p loose mean mg mb A env outer A₀ base h₀ L m s Q E j news x d es n B F X N T hA hf hke hR h1 h2 H hret
  
  refine wpAny_call ?_
  k_dflt (refine' ent1019 ?kR ?k1 ?k2 ?k3 ?k4 ?k5 ?kA ?kF ?kK ?_; (case kR => assumption); (case kA => exact hA); (case kF => exact hf); (case kK => exact hke); (case k1 => k_asm); (case k2 => k_asm); (case k3 => k_asm); (case k4 => k_asm); (case k5 => k_asm); k_whole; intro AA g' L' h' m' tk hq0 hq1 hq2 hq3 hq4 R' hA' FG' F' N' B' X' T'; (try k_fold))
  clear hR hA hf hke B
  w_top off
  repeat (first | (k_unfold; (try dsimp only)) | walk1 | (dsimp only; walk1) | (leave1; try dsimp only))
  
  refine' me_end hret ?F ?N ?P
  case F => k_asm
  case N => k_asm
  case P => rfl

theorem m_reqRx_M11 (w : World) (al : List (Nat × Value))  (e2 : al.lookup 2 = some (.ref 653)) (no : ∀ i, 20 ≤ i → al.lookup i = none) : Meth w al 998 [] (fun v => v = .bool true) := by
  unfold Meth
  k_fill
  intro p loose mean mg mb A env outer A₀ base h₀ L m s Q E j news x d es n B F X N T hA hf hke hR h1 h2 H hret
  
  refine wpAny_call ?_
  k_dflt (refine' ent998 ?kR ?k1 ?k2 ?k3 ?k4 ?k5 ?kA ?kF ?kK ?_; (case kR => assumption); (case kA => exact hA); (case kF => exact hf); (case kK => exact hke); (case k1 => k_asm); (case k2 => k_asm); (case k3 => k_asm); (case k4 => k_asm); (case k5 => k_asm); k_whole; intro AA g' L' h' m' tk hq0 hq1 hq2 R' hA' FG' F' N' B' X' T'; (try k_fold))
  clear hR hA hf hke B
  w_top off
  repeat (first | (k_unfold; (try dsimp only)) | walk1 | (dsimp only; walk1) | (leave1; try dsimp only))
  
  refine' me_end hret ?F ?N ?P
  case F => k_asm
  case N => k_asm
  case P => rfl

theorem m_reqTx_M11 (w : World) (al : List (Nat × Value))  (e2 : al.lookup 2 = some (.ref 653)) (no : ∀ i, 20 ≤ i → al.lookup i = none) : Meth w al 1005 [] (fun v => v = .bool true) := by
  unfold Meth
  k_fill
  intro p loose mean mg mb A env outer A₀ base h₀ L m s Q E j news x d es n B F X N T hA hf hke hR h1 h2 H hret
  
  refine wpAny_call ?_
  k_dflt (refine' ent1005 ?kR ?k1 ?k2 ?k3 ?k4 ?k5 ?kA ?kF ?kK ?_; (case kR => assumption); (case kA => exact hA); (case kF => exact hf); (case kK => exact hke); (case k1 => k_asm); (case k2 => k_asm); (case k3 => k_asm); (case k4 => k_asm); (case k5 => k_asm); k_whole; intro AA g' L' h' m' tk hq0 hq1 hq2 R' hA' FG' F' N' B' X' T'; (try k_fold))
  clear hR hA hf hke B
  w_top off
  repeat (first | (k_unfold; (try dsimp only)) | walk1 | (dsimp only; walk1) | (leave1; try dsimp only))
  
  refine' me_end hret ?F ?N ?P
  case F => k_asm
  case N => k_asm
  case P => rfl

theorem m_txExt_M11 (w : World) (al : List (Nat × Value)) (u : Value) (e2 : al.lookup 2 = some (.ref 653)) (e5 : al.lookup 5 = some (u)) (hu : handedIn u = true) (no : ∀ i, 20 ≤ i → al.lookup i = none) : Meth w al 1012 [] (fun v => v = u) := by
  unfold Meth
  k_fill
  intro p loose mean mg mb A env outer A₀ base h₀ L m s Q E j news x d es n B F X N T hA hf hke hR h1 h2 H hret
  
  refine wpAny_call ?_
  k_dflt (refine' ent1012 ?kR ?k1 ?k2 ?k3 ?k4 ?k5 ?kA ?kF ?kK ?_; (case kR => assumption); (case kA => exact hA); (case kF => exact hf); (case kK => exact hke); (case k1 => k_asm); (case k2 => k_asm); (case k3 => k_asm); (case k4 => k_asm); (case k5 => k_asm); k_whole; intro AA g' L' h' m' tk hq0 hq1 hq2 hq3 hq4 R' hA' FG' F' N' B' X' T'; (try k_fold))
  clear hR hA hf hke B
  w_top off
  repeat (first | (k_unfold; (try dsimp only)) | walk1 | (dsimp only; walk1) | (leave1; try dsimp only))
  
  refine' me_end hret ?F ?N ?P
  case F => k_asm
  case N => k_asm
  case P => rfl

theorem m_rxExt_M11 (w : World) (al : List (Nat × Value)) (u : Value) (e2 : al.lookup 2 = some (.ref 653)) (e5 : al.lookup 5 = some (u)) (hu : handedIn u = true) (no : ∀ i, 20 ≤ i → al.lookup i = none) : Meth w al 1019 [] (fun v => v = u) := by
  unfold Meth
  k_fill
  intro p loose mean mg mb A env outer A₀ base h₀ L m s Q E j news x d es n B F X N T hA hf hke hR h1 h2 H hret
  
  refine wpAny_call ?_
  k_dflt (refine' ent1019 ?kR ?k1 ?k2 ?k3 ?k4 ?k5 ?kA ?kF ?kK ?_; (case kR => assumption); (case kA => exact hA); (case kF => exact hf); (case kK => exact hke); (case k1 => k_asm); (case k2 => k_asm); (case k3 => k_asm); (case k4 => k_asm); (case k5 => k_asm); k_whole; intro AA g' L' h' m' tk hq0 hq1 hq2 hq3 hq4 R' hA' FG' F' N' B' X' T'; (try k_fold))
  clear hR hA hf hke B
  w_top off
  repeat (first | (k_unfold; (try dsimp only)) | walk1 | (dsimp only; walk1) | (leave1; try dsimp only))
  
  refine' me_end hret ?F ?N ?P
  case F => k_asm
  case N => k_asm
  case P => rfl

theorem m_reqRx_M29 (w : World) (al : List (Nat × Value))  (e2 : al.lookup 2 = some (.ref 655)) (no : ∀ i, 20 ≤ i → al.lookup i = none) : Meth w al 998 [] (fun v => v = .bool true) := by
  unfold Meth
  k_fill
  intro p loose mean mg mb A env outer A₀ base h₀ L m s Q E j news x d es n B F X N T hA hf hke hR h1 h2 H hret
  
  refine wpAny_call ?_
  k_dflt (refine' ent998 ?kR ?k1 ?k2 ?k3 ?k4 ?k5 ?kA ?kF ?kK ?_; (case kR => assumption); (case kA => exact hA); (case kF => exact hf); (case kK => exact hke); (case k1 => k_asm); (case k2 => k_asm); (case k3 => k_asm); (case k4 => k_asm); (case k5 => k_asm); k_whole; intro AA g' L' h' m' tk hq0 hq1 hq2 R' hA' FG' F' N' B' X' T'; (try k_fold))
  clear hR hA hf hke B
  w_top off
  repeat (first | (k_unfold; (try dsimp only)) | walk1 | (dsimp only; walk1) | (leave1; try dsimp only))
  
  refine' me_end hret ?F ?N ?P
  case F => k_asm
  case N => k_asm
  case P => rfl

theorem m_reqTx_M29 (w : World) (al : List (Nat × Value))  (e2 : al.lookup 2 = some (.ref 655)) (no : ∀ i, 20 ≤ i → al.lookup i = none) : Meth w al 1005 [] (fun v => v = .bool true) := by
  unfold Meth
  k_fill
  intro p loose mean mg mb A env outer A₀ base h₀ L m s Q E j news x d es n B F X N T hA hf hke hR h1 h2 H hret
  
  refine wpAny_call ?_
  k_dflt (refine' ent1005 ?kR ?k1 ?k2 ?k3 ?k4 ?k5 ?kA ?kF ?kK ?_; (case kR => assumption); (case kA => exact hA); (case kF => exact hf); (case kK => exact hke); (case k1 => k_asm); (case k2 => k_asm); (case k3 => k_asm); (case k4 => k_asm); (case k5 => k_asm); k_whole; intro AA g' L' h' m' tk hq0 hq1 hq2 R' hA' FG' F' N' B' X' T'; (try k_fold))
  clear hR hA hf hke B
  w_top off
  repeat (first | (k_unfold; (try dsimp only)) | walk1 | (dsimp only; walk1) | (leave1; try dsimp only))
  
  refine' me_end hret ?F ?N ?P
  case F => k_asm
  case N => k_asm
  case P => rfl

theorem m_txExt_M29 (w : World) (al : List (Nat × Value)) (u : Value) (e2 : al.lookup 2 = some (.ref 655)) (e5 : al.lookup 5 = some (u)) (hu : handedIn u = true) (no : ∀ i, 20 ≤ i → al.lookup i = none) : Meth w al 1012 [] (fun v => v = u) := by
  unfold Meth
  k_fill
  intro p loose mean mg mb A env outer A₀ base h₀ L m s Q E j news x d es n B F X N T hA hf hke hR h1 h2 H hret
  
  refine wpAny_call ?_
  k_dflt (refine' ent1012 ?kR ?k1 ?k2 ?k3 ?k4 ?k5 ?kA ?kF ?kK ?_; (case kR => assumption); (case kA => exact hA); (case kF => exact hf); (case kK => exact hke); (case k1 => k_asm); (case k2 => k_asm); (case k3 => k_asm); (case k4 => k_asm); (case k5 => k_asm); k_whole; intro AA g' L' h' m' tk hq0 hq1 hq2 hq3 hq4 R' hA' FG' F' N' B' X' T'; (try k_fold))
  clear hR hA hf hke B
  w_top off
  repeat (first | (k_unfold; (try dsimp only)) | walk1 | (dsimp only; walk1) | (leave1; try dsimp only))
  
  refine' me_end hret ?F ?N ?P
  case F => k_asm
  case N => k_asm
  case P => rfl

theorem m_rxExt_M29 (w : World) (al : List (Nat × Value)) (u : Value) (e2 : al.lookup 2 = some (.ref 655)) (e5 : al.lookup 5 = some (u)) (hu : handedIn u = true) (no : ∀ i, 20 ≤ i → al.lookup i = none) : Meth w al 1019 [] (fun v => v = u) := by
  unfold Meth
  k_fill
  intro p loose mean mg mb A env outer A₀ base h₀ L m s Q E j news x d es n B F X N T hA hf hke hR h1 h2 H hret
  
  refine wpAny_call ?_
  k_dflt (refine' ent1019 ?kR ?k1 ?k2 ?k3 ?k4 ?k5 ?kA ?kF ?kK ?_; (case kR => assumption); (case kA => exact hA); (case kF => exact hf); (case kK => exact hke); (case k1 => k_asm); (case k2 => k_asm); (case k3 => k_asm); (case k4 => k_asm); (case k5 => k_asm); k_whole; intro AA g' L' h' m' tk hq0 hq1 hq2 hq3 hq4 R' hA' FG' F' N' B' X' T'; (try k_fold))
  clear hR hA hf hke B
  w_top off
  repeat (first | (k_unfold; (try dsimp only)) | walk1 | (dsimp only; walk1) | (leave1; try dsimp only))
  
  refine' me_end hret ?F ?N ?P
  case F => k_asm
  case N => k_asm
  case P => rfl


theorem f_N11 (w : World) (al : List (Nat × Value)) (r : Int) (tr : Tok) (e1 : al.lookup 1 = some (.bool false)) (e2 : al.lookup 2 = some (.ref 643)) (e8 : al.lookup 8 = some (.bool false)) (e7 : al.lookup 7 = some (.int r tr)) (no : ∀ i, 20 ≤ i → al.lookup i = none) : ForMe w al (HearsP false r r none) := by
  unfold ForMe msgS HearsP
  k_fill
  intro p loose mean mg mb A env outer A₀ base h₀ L m s Q E j news x d y dy es n sent t b u wide B F X N T hA hf hke hR h1 h2 H h3 h4 hz hs hs' hret
  cases wide <;> cases b with | mk b => ?_
  all_goals (cases b)
  all_goals (try (rename_i c0 cs0; replace hz : cs0.length ≤ 64 := by simp at hz; omega))
  all_goals (
  refine wpAny_call ?_
  k_dflt (refine' ent918 ?kR ?k1 ?k2 ?k3 ?k4 ?k5 ?kA ?kF ?kK ?_; (case kR => assumption); (case kA => exact hA); (case kF => exact hf); (case kK => exact hke); (case k1 => k_asm); (case k2 => k_asm); (case k3 => k_asm); (case k4 => k_asm); (case k5 => k_asm); k_whole; intro AA g' L' h' m' tk hq0 hq1 hq2 hq3 hq4 hq5 hq6 hq7 R' hA' FG' F' N' B' X' T'; (try k_fold))
  clear hR hA hf hke B)
  w_top off
  all_goals (repeat' (first | (k_unfold; (try dsimp only)) | walk1 | (dsimp only; walk1) | (leave1; try dsimp only)))
  
  all_goals (refine me_end hret (by k_asm) (by first | k_asm | exact news_tl (by k_asm)) ?_)
  all_goals (clear hret; refine bp ?_; (try simp only [any2 hs hs', src8 hs, and_low, decide_eq_true_eq, decide_eq_false_iff_not, beq_iff_eq, ne_eq] at *); simp only [hd_nil, hd_cons, beq_iff_eq, Option.some.injEq, reduceCtorEq, Bool.false_eq_true, true_and, and_true, false_and, and_false, false_or, or_false, or_self, true_iff, false_iff, not_false_eq_true]; (try omega))

theorem f_N29 (w : World) (al : List (Nat × Value)) (r : Int) (tr : Tok) (e1 : al.lookup 1 = some (.bool false)) (e2 : al.lookup 2 = some (.ref 645)) (e8 : al.lookup 8 = some (.bool true)) (e7 : al.lookup 7 = some (.int r tr)) (no : ∀ i, 20 ≤ i → al.lookup i = none) : ForMe w al (HearsP true r r none) := by
  unfold ForMe msgS HearsP
  k_fill
  intro p loose mean mg mb A env outer A₀ base h₀ L m s Q E j news x d y dy es n sent t b u wide B F X N T hA hf hke hR h1 h2 H h3 h4 hz hs hs' hret
  cases wide <;> cases b with | mk b => ?_
  all_goals (cases b)
  all_goals (try (rename_i c0 cs0; replace hz : cs0.length ≤ 64 := by simp at hz; omega))
  all_goals (
  refine wpAny_call ?_
  k_dflt (refine' ent918 ?kR ?k1 ?k2 ?k3 ?k4 ?k5 ?kA ?kF ?kK ?_; (case kR => assumption); (case kA => exact hA); (case kF => exact hf); (case kK => exact hke); (case k1 => k_asm); (case k2 => k_asm); (case k3 => k_asm); (case k4 => k_asm); (case k5 => k_asm); k_whole; intro AA g' L' h' m' tk hq0 hq1 hq2 hq3 hq4 hq5 hq6 hq7 R' hA' FG' F' N' B' X' T'; (try k_fold))
  clear hR hA hf hke B)
  w_top off
  all_goals (repeat' (first | (k_unfold; (try dsimp only)) | walk1 | (dsimp only; walk1) | (leave1; try dsimp only)))
  
  all_goals (refine me_end hret (by k_asm) (by first | k_asm | exact news_tl (by k_asm)) ?_)
  all_goals (clear hret; refine bp ?_; (try simp only [any2 hs hs', src8 hs, and_low, decide_eq_true_eq, decide_eq_false_iff_not, beq_iff_eq, ne_eq] at *); simp only [hd_nil, hd_cons, beq_iff_eq, Option.some.injEq, reduceCtorEq, Bool.false_eq_true, true_and, and_true, false_and, and_false, false_or, or_false, or_self, true_iff, false_iff, not_false_eq_true]; (try omega))

theorem f_NF29 (w : World) (al : List (Nat × Value)) (c o ph fu : Int) (tc to tph tfu : Tok) (e1 : al.lookup 1 = some (.bool false)) (e2 : al.lookup 2 = some (.ref 647)) (e8 : al.lookup 8 = some (.bool true)) (e3 : al.lookup 3 = some (.int c tc)) (e4 : al.lookup 4 = some (.int o to)) (e9 : al.lookup 9 = some (.int ph tph)) (e10 : al.lookup 10 = some (.int fu tfu)) (hc : 0 ≤ c) (hc' : c ≤ 255) (ho : 0 ≤ o) (ho' : o ≤ 255) (hph : ph % 65536 = 0) (hfu : fu % 65536 = 0) (no : ∀ i, 20 ≤ i → al.lookup i = none) : ForMe w al (HearsP true (ph + 256 * o + c) (fu + 256 * o + c) none) := by
  unfold ForMe msgS HearsP
  k_fill
  intro p loose mean mg mb A env outer A₀ base h₀ L m s Q E j news x d y dy es n sent t b u wide B F X N T hA hf hke hR h1 h2 H h3 h4 hz hs hs' hret
  cases wide <;> cases b with | mk b => ?_
  all_goals (cases b)
  all_goals (try (rename_i c0 cs0; replace hz : cs0.length ≤ 64 := by simp at hz; omega))
  all_goals (
  refine wpAny_call ?_
  k_dflt (refine' ent918 ?kR ?k1 ?k2 ?k3 ?k4 ?k5 ?kA ?kF ?kK ?_; (case kR => assumption); (case kA => exact hA); (case kF => exact hf); (case kK => exact hke); (case k1 => k_asm); (case k2 => k_asm); (case k3 => k_asm); (case k4 => k_asm); (case k5 => k_asm); k_whole; intro AA g' L' h' m' tk hq0 hq1 hq2 hq3 hq4 hq5 hq6 hq7 R' hA' FG' F' N' B' X' T'; (try k_fold))
  clear hR hA hf hke B)
  w_top off
  all_goals (repeat' (first | (k_unfold; (try dsimp only)) | walk1 | (dsimp only; walk1) | (leave1; try dsimp only)))
  
  all_goals (refine me_end hret (by k_asm) (by first | k_asm | exact news_tl (by k_asm)) ?_)
  all_goals (clear hret; refine bp ?_; (try simp only [any2 hs hs', src8 hs, and_low, decide_eq_true_eq, decide_eq_false_iff_not, beq_iff_eq, ne_eq] at *); simp only [hd_nil, hd_cons, beq_iff_eq, Option.some.injEq, reduceCtorEq, Bool.false_eq_true, true_and, and_true, false_and, and_false, false_or, or_false, or_self, true_iff, false_iff, not_false_eq_true]; (try omega))

theorem f_E11 (w : World) (al : List (Nat × Value)) (r o : Int) (tr to : Tok) (e1 : al.lookup 1 = some (.bool false)) (e2 : al.lookup 2 = some (.ref 649)) (e8 : al.lookup 8 = some (.bool false)) (e7 : al.lookup 7 = some (.int r tr)) (e4 : al.lookup 4 = some (.int o to)) (no : ∀ i, 20 ≤ i → al.lookup i = none) : ForMe w al (HearsP false r r (some o)) := by
  unfold ForMe msgS HearsP
  k_fill
  intro p loose mean mg mb A env outer A₀ base h₀ L m s Q E j news x d y dy es n sent t b u wide B F X N T hA hf hke hR h1 h2 H h3 h4 hz hs hs' hret
  cases wide <;> cases b with | mk b => ?_
  all_goals (cases b)
  all_goals (try (rename_i c0 cs0; replace hz : cs0.length ≤ 64 := by simp at hz; omega))
  all_goals (
  refine wpAny_call ?_
  k_dflt (refine' ent918 ?kR ?k1 ?k2 ?k3 ?k4 ?k5 ?kA ?kF ?kK ?_; (case kR => assumption); (case kA => exact hA); (case kF => exact hf); (case kK => exact hke); (case k1 => k_asm); (case k2 => k_asm); (case k3 => k_asm); (case k4 => k_asm); (case k5 => k_asm); k_whole; intro AA g' L' h' m' tk hq0 hq1 hq2 hq3 hq4 hq5 hq6 hq7 R' hA' FG' F' N' B' X' T'; (try k_fold))
  clear hR hA hf hke B)
  w_top off
  all_goals (repeat' (first | (k_unfold; (try dsimp only)) | walk1 | (dsimp only; walk1) | (leave1; try dsimp only)))
  
  all_goals (refine me_end hret (by k_asm) (by first | k_asm | exact news_tl (by k_asm)) ?_)
  all_goals (clear hret; refine bp ?_; (try simp only [any2 hs hs', src8 hs, and_low, decide_eq_true_eq, decide_eq_false_iff_not, beq_iff_eq, ne_eq] at *); simp only [hd_nil, hd_cons, beq_iff_eq, Option.some.injEq, reduceCtorEq, Bool.false_eq_true, true_and, and_true, false_and, and_false, false_or, or_false, or_self, true_iff, false_iff, not_false_eq_true]; (try omega))

theorem f_E29 (w : World) (al : List (Nat × Value)) (r o : Int) (tr to : Tok) (e1 : al.lookup 1 = some (.bool false)) (e2 : al.lookup 2 = some (.ref 651)) (e8 : al.lookup 8 = some (.bool true)) (e7 : al.lookup 7 = some (.int r tr)) (e4 : al.lookup 4 = some (.int o to)) (no : ∀ i, 20 ≤ i → al.lookup i = none) : ForMe w al (HearsP true r r (some o)) := by
  unfold ForMe msgS HearsP
  k_fill
  intro p loose mean mg mb A env outer A₀ base h₀ L m s Q E j news x d y dy es n sent t b u wide B F X N T hA hf hke hR h1 h2 H h3 h4 hz hs hs' hret
  cases wide <;> cases b with | mk b => ?_
  all_goals (cases b)
  all_goals (try (rename_i c0 cs0; replace hz : cs0.length ≤ 64 := by simp at hz; omega))
  all_goals (
  refine wpAny_call ?_
  k_dflt (refine' ent918 ?kR ?k1 ?k2 ?k3 ?k4 ?k5 ?kA ?kF ?kK ?_; (case kR => assumption); (case kA => exact hA); (case kF => exact hf); (case kK => exact hke); (case k1 => k_asm); (case k2 => k_asm); (case k3 => k_asm); (case k4 => k_asm); (case k5 => k_asm); k_whole; intro AA g' L' h' m' tk hq0 hq1 hq2 hq3 hq4 hq5 hq6 hq7 R' hA' FG' F' N' B' X' T'; (try k_fold))
  clear hR hA hf hke B)
  w_top off
  all_goals (repeat' (first | (k_unfold; (try dsimp only)) | walk1 | (dsimp only; walk1) | (leave1; try dsimp only)))
  
  all_goals (refine me_end hret (by k_asm) (by first | k_asm | exact news_tl (by k_asm)) ?_)
  all_goals (clear hret; refine bp ?_; (try simp only [any2 hs hs', src8 hs, and_low, decide_eq_true_eq, decide_eq_false_iff_not, beq_iff_eq, ne_eq] at *); simp only [hd_nil, hd_cons, beq_iff_eq, Option.some.injEq, reduceCtorEq, Bool.false_eq_true, true_and, and_true, false_and, and_false, false_or, or_false, or_self, true_iff, false_iff, not_false_eq_true]; (try omega))

theorem f_M11 (w : World) (al : List (Nat × Value)) (r e : Int) (tr te : Tok) (e1 : al.lookup 1 = some (.bool false)) (e2 : al.lookup 2 = some (.ref 653)) (e8 : al.lookup 8 = some (.bool false)) (e7 : al.lookup 7 = some (.int r tr)) (e5 : al.lookup 5 = some (.int e te)) (no : ∀ i, 20 ≤ i → al.lookup i = none) : ForMe w al (HearsP false r r (some e)) := by
  unfold ForMe msgS HearsP
  k_fill
  intro p loose mean mg mb A env outer A₀ base h₀ L m s Q E j news x d y dy es n sent t b u wide B F X N T hA hf hke hR h1 h2 H h3 h4 hz hs hs' hret
  cases wide <;> cases b with | mk b => ?_
  all_goals (cases b)
  all_goals (try (rename_i c0 cs0; replace hz : cs0.length ≤ 64 := by simp at hz; omega))
  all_goals (
  refine wpAny_call ?_
  k_dflt (refine' ent918 ?kR ?k1 ?k2 ?k3 ?k4 ?k5 ?kA ?kF ?kK ?_; (case kR => assumption); (case kA => exact hA); (case kF => exact hf); (case kK => exact hke); (case k1 => k_asm); (case k2 => k_asm); (case k3 => k_asm); (case k4 => k_asm); (case k5 => k_asm); k_whole; intro AA g' L' h' m' tk hq0 hq1 hq2 hq3 hq4 hq5 hq6 hq7 R' hA' FG' F' N' B' X' T'; (try k_fold))
  clear hR hA hf hke B)
  w_top off
  all_goals (repeat' (first | (k_unfold; (try dsimp only)) | walk1 | (dsimp only; walk1) | (leave1; try dsimp only)))
  
  all_goals (refine me_end hret (by k_asm) (by first | k_asm | exact news_tl (by k_asm)) ?_)
  all_goals (clear hret; refine bp ?_; (try simp only [any2 hs hs', src8 hs, and_low, decide_eq_true_eq, decide_eq_false_iff_not, beq_iff_eq, ne_eq] at *); simp only [hd_nil, hd_cons, beq_iff_eq, Option.some.injEq, reduceCtorEq, Bool.false_eq_true, true_and, and_true, false_and, and_false, false_or, or_false, or_self, true_iff, false_iff, not_false_eq_true]; (try omega))

theorem f_M29 (w : World) (al : List (Nat × Value)) (c o ph fu e : Int) (tc to tph tfu te : Tok) (e1 : al.lookup 1 = some (.bool false)) (e2 : al.lookup 2 = some (.ref 655)) (e8 : al.lookup 8 = some (.bool true)) (e3 : al.lookup 3 = some (.int c tc)) (e4 : al.lookup 4 = some (.int o to)) (e9 : al.lookup 9 = some (.int ph tph)) (e10 : al.lookup 10 = some (.int fu tfu)) (hc : 0 ≤ c) (hc' : c ≤ 255) (ho : 0 ≤ o) (ho' : o ≤ 255) (hph : ph % 65536 = 0) (hfu : fu % 65536 = 0) (e5 : al.lookup 5 = some (.int e te)) (no : ∀ i, 20 ≤ i → al.lookup i = none) : ForMe w al (HearsP true (ph + 256 * o + c) (fu + 256 * o + c) (some e)) := by
  unfold ForMe msgS HearsP
  k_fill
  intro p loose mean mg mb A env outer A₀ base h₀ L m s Q E j news x d y dy es n sent t b u wide B F X N T hA hf hke hR h1 h2 H h3 h4 hz hs hs' hret
  cases wide <;> cases b with | mk b => ?_
  all_goals (cases b)
  all_goals (try (rename_i c0 cs0; replace hz : cs0.length ≤ 64 := by simp at hz; omega))
  all_goals (
  refine wpAny_call ?_
  k_dflt (refine' ent918 ?kR ?k1 ?k2 ?k3 ?k4 ?k5 ?kA ?kF ?kK ?_; (case kR => assumption); (case kA => exact hA); (case kF => exact hf); (case kK => exact hke); (case k1 => k_asm); (case k2 => k_asm); (case k3 => k_asm); (case k4 => k_asm); (case k5 => k_asm); k_whole; intro AA g' L' h' m' tk hq0 hq1 hq2 hq3 hq4 hq5 hq6 hq7 R' hA' FG' F' N' B' X' T'; (try k_fold))
  clear hR hA hf hke B)
  w_top off
  all_goals (repeat' (first | (k_unfold; (try dsimp only)) | walk1 | (dsimp only; walk1) | (leave1; try dsimp only)))
  
  all_goals (refine me_end hret (by k_asm) (by first | k_asm | exact news_tl (by k_asm)) ?_)
  all_goals (clear hret; refine bp ?_; (try simp only [any2 hs hs', src8 hs, and_low, decide_eq_true_eq, decide_eq_false_iff_not, beq_iff_eq, ne_eq] at *); simp only [hd_nil, hd_cons, beq_iff_eq, Option.some.injEq, reduceCtorEq, Bool.false_eq_true, true_and, and_true, false_and, and_false, false_or, or_false, or_self, true_iff, false_iff, not_false_eq_true]; (try omega))


theorem pN11 (w : World) (a b : Int) (ta tb : Tok) (ha : 0 ≤ a) (ha' : a ≤ 2047) (hb : 0 ≤ b) (hb' : b ≤ 2047) (hab : a ≠ b) :
   NewAddr w [.ref 643] [(Str.ofString "txid", .int a ta), (Str.ofString "rxid", .int b tb)] (fun al => Ad al 643 false false false none none none (some b) none none none 0 (some b) (some b) (some a) (some a)) := by
  unfold NewAddr Ctx
  k_fill
  intro rest p loose mean mg mb A env outer A₀ base h₀ L m s Q E B F X N T hA hf hke hR hret
  walk_at "MY cls"
  rename_i x d h' F' N' l1 l2
  have hxd : x ≠ d := fun e => by subst e; exact Nat.lt_irrefl _ l2
  have hr : ∀ q ∈ rest, q.1 ≠ d := fun q hq => Nat.ne_of_lt (l1 q hq)
  have hH := has_nil
  have hR' := hR.make (C := 1036) (pos := [.ref 643]) (kw := [(Str.ofString "txid", .int a ta), (Str.ofString "rxid", .int b tb)])
  k_dflt (refine' enter nInit gInit [.ref x, .ref 643, .int a ta, .int b tb, .none, .none, .none, .none, .none, .bool false, .bool false] ?kR ?k1 ?k2 ?k3 ?k4 ?k5 ?kA ?kF ?kK ?k6 ?k7 ?k9 nInit_nd nInit_l nInit_g nInit_d gInit_d ?_ ?c2 ?c3 ?c4 ?c5; (case kR => assumption); (case kA => exact hA); (case kF => exact hf); (case kK => exact hke); (case k1 => k_asm); (case k2 => k_asm); (case k3 => k_asm); (case k4 => k_asm); (case k5 => k_asm); (case k6 => k_is); (case k7 => k_is); (case k9 => (refine' binds_K ?x ?q1 ?qk ?q2 ?q3 ?q4; (case x => k_in); (case q1 => exact rfl); (case qk => k_is); (case q2 => exact rfl); (case q3 => exact rfl); (case q4 => kernel_rfl))); (case c5 => decide); (case c2 => exact rfl); (case c3 => exact rfl); (case c4 => exact rfl); k_whole; intro AA g' L' h' m' tk hm hml hmg hmd hme R' hA' FG' F' N' B' X' T'; (try k_fold))
  simp only [nInit, List.zip_cons_cons, List.zip_nil_right, List.forall_mem_cons, List.not_mem_nil, false_implies, implies_true, and_true] at hm
  simp only [nInit, List.forall_mem_cons, List.not_mem_nil, false_implies, implies_true, and_true] at hml
  simp only [gInit, List.forall_mem_cons, List.not_mem_nil, false_implies, implies_true, and_true] at hmg
  simp only [nInit, List.forall_mem_cons, List.not_mem_nil, false_implies, implies_true, and_true] at hmd
  simp only [gInit, List.forall_mem_cons, List.not_mem_nil, false_implies, implies_true, and_true] at hme
  obtain ⟨hd0, hd1, hd2, hd3, hd4, hd5, hd6, hd7, hd8, hd9, hd10⟩ := hmd
  obtain ⟨he0, he1⟩ := hme
  obtain ⟨hl0, hl1, hl2, hl3, hl4, hl5, hl6, hl7, hl8, hl9, hl10⟩ := hml
  obtain ⟨hg0, hg1⟩ := hmg
  obtain ⟨hm0, hm1, hm2, hm3, hm4, hm5, hm6, hm7, hm8, hm9, hm10⟩ := hm
  clear hR hR' hA hf hke B
  w_top off
  repeat (first | (k_unfold; (try dsimp only)) | walk1 | (dsimp only; walk1) | (leave1; try dsimp only))
  
  refine' na_end hret l1 l2 ?F ?N ?H ?ad
  case F => k_asm
  case N => k_asm
  case H => assumption
  case ad => exact ⟨rfl, rfl, rfl, rfl, rfl, rfl, rfl, ⟨_, rfl⟩, trivial, trivial, ⟨_, rfl⟩, ⟨_, rfl⟩, ⟨_, rfl⟩, ⟨_, rfl⟩, ⟨_, rfl⟩, ⟨_, rfl⟩, no_of rfl⟩

theorem pN29 (w : World) (a b : Int) (ta tb : Tok) (ha : 0 ≤ a) (hb : 0 ≤ b) (hab : a ≠ b) :
   NewAddr w [.ref 645] [(Str.ofString "txid", .int a ta), (Str.ofString "rxid", .int b tb)] (fun al => Ad al 645 false false true none none none (some b) none none none 0 (some b) (some b) (some a) (some a)) := by
  unfold NewAddr Ctx
  k_fill
  intro rest p loose mean mg mb A env outer A₀ base h₀ L m s Q E B F X N T hA hf hke hR hret
  walk_at "MY cls"
  rename_i x d h' F' N' l1 l2
  have hxd : x ≠ d := fun e => by subst e; exact Nat.lt_irrefl _ l2
  have hr : ∀ q ∈ rest, q.1 ≠ d := fun q hq => Nat.ne_of_lt (l1 q hq)
  have hH := has_nil
  have hR' := hR.make (C := 1036) (pos := [.ref 645]) (kw := [(Str.ofString "txid", .int a ta), (Str.ofString "rxid", .int b tb)])
  k_dflt (refine' enter nInit gInit [.ref x, .ref 645, .int a ta, .int b tb, .none, .none, .none, .none, .none, .bool false, .bool false] ?kR ?k1 ?k2 ?k3 ?k4 ?k5 ?kA ?kF ?kK ?k6 ?k7 ?k9 nInit_nd nInit_l nInit_g nInit_d gInit_d ?_ ?c2 ?c3 ?c4 ?c5; (case kR => assumption); (case kA => exact hA); (case kF => exact hf); (case kK => exact hke); (case k1 => k_asm); (case k2 => k_asm); (case k3 => k_asm); (case k4 => k_asm); (case k5 => k_asm); (case k6 => k_is); (case k7 => k_is); (case k9 => (refine' binds_K ?x ?q1 ?qk ?q2 ?q3 ?q4; (case x => k_in); (case q1 => exact rfl); (case qk => k_is); (case q2 => exact rfl); (case q3 => exact rfl); (case q4 => kernel_rfl))); (case c5 => decide); (case c2 => exact rfl); (case c3 => exact rfl); (case c4 => exact rfl); k_whole; intro AA g' L' h' m' tk hm hml hmg hmd hme R' hA' FG' F' N' B' X' T'; (try k_fold))
  simp only [nInit, List.zip_cons_cons, List.zip_nil_right, List.forall_mem_cons, List.not_mem_nil, false_implies, implies_true, and_true] at hm
  simp only [nInit, List.forall_mem_cons, List.not_mem_nil, false_implies, implies_true, and_true] at hml
  simp only [gInit, List.forall_mem_cons, List.not_mem_nil, false_implies, implies_true, and_true] at hmg
  simp only [nInit, List.forall_mem_cons, List.not_mem_nil, false_implies, implies_true, and_true] at hmd
  simp only [gInit, List.forall_mem_cons, List.not_mem_nil, false_implies, implies_true, and_true] at hme
  obtain ⟨hd0, hd1, hd2, hd3, hd4, hd5, hd6, hd7, hd8, hd9, hd10⟩ := hmd
  obtain ⟨he0, he1⟩ := hme
  obtain ⟨hl0, hl1, hl2, hl3, hl4, hl5, hl6, hl7, hl8, hl9, hl10⟩ := hml
  obtain ⟨hg0, hg1⟩ := hmg
  obtain ⟨hm0, hm1, hm2, hm3, hm4, hm5, hm6, hm7, hm8, hm9, hm10⟩ := hm
  clear hR hR' hA hf hke B
  w_top off
  repeat (first | (k_unfold; (try dsimp only)) | walk1 | (dsimp only; walk1) | (leave1; try dsimp only))
  
  refine' na_end hret l1 l2 ?F ?N ?H ?ad
  case F => k_asm
  case N => k_asm
  case H => assumption
  case ad => exact ⟨rfl, rfl, rfl, rfl, rfl, rfl, rfl, ⟨_, rfl⟩, trivial, trivial, ⟨_, rfl⟩, ⟨_, rfl⟩, ⟨_, rfl⟩, ⟨_, rfl⟩, ⟨_, rfl⟩, ⟨_, rfl⟩, no_of rfl⟩

theorem pNF29 (w : World) (t o : Int) (tt to : Tok) (ht : 0 ≤ t) (ht' : t ≤ 255) (ho : 0 ≤ o) (ho' : o ≤ 255) :
   NewAddr w [.ref 647] [(Str.ofString "target_address", .int t tt), (Str.ofString "source_address", .int o to)] (fun al => Ad al 647 false false true (some t) (some o) none none (some 416940032) (some 417005568) none 0 (some (416940032 + 256 * o + t)) (some (417005568 + 256 * o + t)) (some (416940032 + 256 * t + o)) (some (417005568 + 256 * t + o))) := by
  unfold NewAddr Ctx
  k_fill
  intro rest p loose mean mg mb A env outer A₀ base h₀ L m s Q E B F X N T hA hf hke hR hret
  walk_at "MY cls"
  rename_i x d h' F' N' l1 l2
  have hxd : x ≠ d := fun e => by subst e; exact Nat.lt_irrefl _ l2
  have hr : ∀ q ∈ rest, q.1 ≠ d := fun q hq => Nat.ne_of_lt (l1 q hq)
  have hH := has_nil
  have hR' := hR.make (C := 1036) (pos := [.ref 647]) (kw := [(Str.ofString "target_address", .int t tt), (Str.ofString "source_address", .int o to)])
  k_dflt (refine' enter nInit gInit [.ref x, .ref 647, .none, .none, .int t tt, .int o to, .none, .none, .none, .bool false, .bool false] ?kR ?k1 ?k2 ?k3 ?k4 ?k5 ?kA ?kF ?kK ?k6 ?k7 ?k9 nInit_nd nInit_l nInit_g nInit_d gInit_d ?_ ?c2 ?c3 ?c4 ?c5; (case kR => assumption); (case kA => exact hA); (case kF => exact hf); (case kK => exact hke); (case k1 => k_asm); (case k2 => k_asm); (case k3 => k_asm); (case k4 => k_asm); (case k5 => k_asm); (case k6 => k_is); (case k7 => k_is); (case k9 => (refine' binds_K ?x ?q1 ?qk ?q2 ?q3 ?q4; (case x => k_in); (case q1 => exact rfl); (case qk => k_is); (case q2 => exact rfl); (case q3 => exact rfl); (case q4 => kernel_rfl))); (case c5 => decide); (case c2 => exact rfl); (case c3 => exact rfl); (case c4 => exact rfl); k_whole; intro AA g' L' h' m' tk hm hml hmg hmd hme R' hA' FG' F' N' B' X' T'; (try k_fold))
  simp only [nInit, List.zip_cons_cons, List.zip_nil_right, List.forall_mem_cons, List.not_mem_nil, false_implies, implies_true, and_true] at hm
  simp only [nInit, List.forall_mem_cons, List.not_mem_nil, false_implies, implies_true, and_true] at hml
  simp only [gInit, List.forall_mem_cons, List.not_mem_nil, false_implies, implies_true, and_true] at hmg
  simp only [nInit, List.forall_mem_cons, List.not_mem_nil, false_implies, implies_true, and_true] at hmd
  simp only [gInit, List.forall_mem_cons, List.not_mem_nil, false_implies, implies_true, and_true] at hme
  obtain ⟨hd0, hd1, hd2, hd3, hd4, hd5, hd6, hd7, hd8, hd9, hd10⟩ := hmd
  obtain ⟨he0, he1⟩ := hme
  obtain ⟨hl0, hl1, hl2, hl3, hl4, hl5, hl6, hl7, hl8, hl9, hl10⟩ := hml
  obtain ⟨hg0, hg1⟩ := hmg
  obtain ⟨hm0, hm1, hm2, hm3, hm4, hm5, hm6, hm7, hm8, hm9, hm10⟩ := hm
  clear hR hR' hA hf hke B
  w_top off
  repeat (first | (k_unfold; (try dsimp only)) | walk1 | (dsimp only; walk1) | (leave1; try dsimp only))
  
  refine' na_end hret l1 l2 ?F ?N ?H ?ad
  case F => k_asm
  case N => k_asm
  case H => assumption
  case ad => exact ⟨rfl, rfl, rfl, rfl, ⟨_, rfl⟩, ⟨_, rfl⟩, rfl, rfl, ⟨_, rfl⟩, ⟨_, rfl⟩, ⟨_, rfl⟩, ⟨_, rfl⟩, vi_num rfl (num_or (c := 6362) (by decide) (by decide) ho ho' ht ht'), vi_num rfl (num_or (c := 6363) (by decide) (by decide) ho ho' ht ht'), vi_num rfl (num_or (c := 6362) (by decide) (by decide) ht ht' ho ho'), vi_num rfl (num_or (c := 6363) (by decide) (by decide) ht ht' ho ho'), no_of rfl⟩

theorem hN11 (w : World) (b : Int) (tb : Tok) (hb : 0 ≤ b) (hb' : b ≤ 2047) :
   NewAddr w [.ref 643] [(Str.ofString "rxid", .int b tb), (Str.ofString "address_extension", .none), (Str.ofString "rx_only", .bool true)] (fun al => Ad al 643 true false false none none none (some b) none none none 0 (some b) (some b) none none) := by
  unfold NewAddr Ctx
  k_fill
  intro rest p loose mean mg mb A env outer A₀ base h₀ L m s Q E B F X N T hA hf hke hR hret
  walk_at "MY cls"
  rename_i x d h' F' N' l1 l2
  have hxd : x ≠ d := fun e => by subst e; exact Nat.lt_irrefl _ l2
  have hr : ∀ q ∈ rest, q.1 ≠ d := fun q hq => Nat.ne_of_lt (l1 q hq)
  have hH := has_nil
  have hR' := hR.make (C := 1036) (pos := [.ref 643]) (kw := [(Str.ofString "rxid", .int b tb), (Str.ofString "address_extension", .none), (Str.ofString "rx_only", .bool true)])
  k_dflt (refine' enter nInit gInit [.ref x, .ref 643, .none, .int b tb, .none, .none, .none, .none, .none, .bool true, .bool false] ?kR ?k1 ?k2 ?k3 ?k4 ?k5 ?kA ?kF ?kK ?k6 ?k7 ?k9 nInit_nd nInit_l nInit_g nInit_d gInit_d ?_ ?c2 ?c3 ?c4 ?c5; (case kR => assumption); (case kA => exact hA); (case kF => exact hf); (case kK => exact hke); (case k1 => k_asm); (case k2 => k_asm); (case k3 => k_asm); (case k4 => k_asm); (case k5 => k_asm); (case k6 => k_is); (case k7 => k_is); (case k9 => (refine' binds_K ?x ?q1 ?qk ?q2 ?q3 ?q4; (case x => k_in); (case q1 => exact rfl); (case qk => k_is); (case q2 => exact rfl); (case q3 => exact rfl); (case q4 => kernel_rfl))); (case c5 => decide); (case c2 => exact rfl); (case c3 => exact rfl); (case c4 => exact rfl); k_whole; intro AA g' L' h' m' tk hm hml hmg hmd hme R' hA' FG' F' N' B' X' T'; (try k_fold))
  simp only [nInit, List.zip_cons_cons, List.zip_nil_right, List.forall_mem_cons, List.not_mem_nil, false_implies, implies_true, and_true] at hm
  simp only [nInit, List.forall_mem_cons, List.not_mem_nil, false_implies, implies_true, and_true] at hml
  simp only [gInit, List.forall_mem_cons, List.not_mem_nil, false_implies, implies_true, and_true] at hmg
  simp only [nInit, List.forall_mem_cons, List.not_mem_nil, false_implies, implies_true, and_true] at hmd
  simp only [gInit, List.forall_mem_cons, List.not_mem_nil, false_implies, implies_true, and_true] at hme
  obtain ⟨hd0, hd1, hd2, hd3, hd4, hd5, hd6, hd7, hd8, hd9, hd10⟩ := hmd
  obtain ⟨he0, he1⟩ := hme
  obtain ⟨hl0, hl1, hl2, hl3, hl4, hl5, hl6, hl7, hl8, hl9, hl10⟩ := hml
  obtain ⟨hg0, hg1⟩ := hmg
  obtain ⟨hm0, hm1, hm2, hm3, hm4, hm5, hm6, hm7, hm8, hm9, hm10⟩ := hm
  clear hR hR' hA hf hke B
  w_top off
  repeat (first | (k_unfold; (try dsimp only)) | walk1 | (dsimp only; walk1) | (leave1; try dsimp only))
  
  refine' na_end hret l1 l2 ?F ?N ?H ?ad
  case F => k_asm
  case N => k_asm
  case H => assumption
  case ad => exact ⟨rfl, rfl, rfl, rfl, rfl, rfl, rfl, ⟨_, rfl⟩, trivial, trivial, ⟨_, rfl⟩, ⟨_, rfl⟩, ⟨_, rfl⟩, ⟨_, rfl⟩, trivial, trivial, no_of rfl⟩

theorem hN29 (w : World) (b : Int) (tb : Tok) (hb : 0 ≤ b) :
   NewAddr w [.ref 645] [(Str.ofString "rxid", .int b tb), (Str.ofString "address_extension", .none), (Str.ofString "rx_only", .bool true)] (fun al => Ad al 645 true false true none none none (some b) none none none 0 (some b) (some b) none none) := by
  unfold NewAddr Ctx
  k_fill
  intro rest p loose mean mg mb A env outer A₀ base h₀ L m s Q E B F X N T hA hf hke hR hret
  walk_at "MY cls"
  rename_i x d h' F' N' l1 l2
  have hxd : x ≠ d := fun e => by subst e; exact Nat.lt_irrefl _ l2
  have hr : ∀ q ∈ rest, q.1 ≠ d := fun q hq => Nat.ne_of_lt (l1 q hq)
  have hH := has_nil
  have hR' := hR.make (C := 1036) (pos := [.ref 645]) (kw := [(Str.ofString "rxid", .int b tb), (Str.ofString "address_extension", .none), (Str.ofString "rx_only", .bool true)])
  k_dflt (refine' enter nInit gInit [.ref x, .ref 645, .none, .int b tb, .none, .none, .none, .none, .none, .bool true, .bool false] ?kR ?k1 ?k2 ?k3 ?k4 ?k5 ?kA ?kF ?kK ?k6 ?k7 ?k9 nInit_nd nInit_l nInit_g nInit_d gInit_d ?_ ?c2 ?c3 ?c4 ?c5; (case kR => assumption); (case kA => exact hA); (case kF => exact hf); (case kK => exact hke); (case k1 => k_asm); (case k2 => k_asm); (case k3 => k_asm); (case k4 => k_asm); (case k5 => k_asm); (case k6 => k_is); (case k7 => k_is); (case k9 => (refine' binds_K ?x ?q1 ?qk ?q2 ?q3 ?q4; (case x => k_in); (case q1 => exact rfl); (case qk => k_is); (case q2 => exact rfl); (case q3 => exact rfl); (case q4 => kernel_rfl))); (case c5 => decide); (case c2 => exact rfl); (case c3 => exact rfl); (case c4 => exact rfl); k_whole; intro AA g' L' h' m' tk hm hml hmg hmd hme R' hA' FG' F' N' B' X' T'; (try k_fold))
  simp only [nInit, List.zip_cons_cons, List.zip_nil_right, List.forall_mem_cons, List.not_mem_nil, false_implies, implies_true, and_true] at hm
  simp only [nInit, List.forall_mem_cons, List.not_mem_nil, false_implies, implies_true, and_true] at hml
  simp only [gInit, List.forall_mem_cons, List.not_mem_nil, false_implies, implies_true, and_true] at hmg
  simp only [nInit, List.forall_mem_cons, List.not_mem_nil, false_implies, implies_true, and_true] at hmd
  simp only [gInit, List.forall_mem_cons, List.not_mem_nil, false_implies, implies_true, and_true] at hme
  obtain ⟨hd0, hd1, hd2, hd3, hd4, hd5, hd6, hd7, hd8, hd9, hd10⟩ := hmd
  obtain ⟨he0, he1⟩ := hme
  obtain ⟨hl0, hl1, hl2, hl3, hl4, hl5, hl6, hl7, hl8, hl9, hl10⟩ := hml
  obtain ⟨hg0, hg1⟩ := hmg
  obtain ⟨hm0, hm1, hm2, hm3, hm4, hm5, hm6, hm7, hm8, hm9, hm10⟩ := hm
  clear hR hR' hA hf hke B
  w_top off
  repeat (first | (k_unfold; (try dsimp only)) | walk1 | (dsimp only; walk1) | (leave1; try dsimp only))
  
  refine' na_end hret l1 l2 ?F ?N ?H ?ad
  case F => k_asm
  case N => k_asm
  case H => assumption
  case ad => exact ⟨rfl, rfl, rfl, rfl, rfl, rfl, rfl, ⟨_, rfl⟩, trivial, trivial, ⟨_, rfl⟩, ⟨_, rfl⟩, ⟨_, rfl⟩, ⟨_, rfl⟩, trivial, trivial, no_of rfl⟩

theorem hNF29 (w : World) (t o : Int) (tt to : Tok) (ht : 0 ≤ t) (ht' : t ≤ 255) (ho : 0 ≤ o) (ho' : o ≤ 255) :
   NewAddr w [.ref 647] [(Str.ofString "target_address", .int t tt), (Str.ofString "source_address", .int o to), (Str.ofString "address_extension", .none), (Str.ofString "rx_only", .bool true)] (fun al => Ad al 647 true false true (some t) (some o) none none (some 416940032) (some 417005568) none 0 (some (416940032 + 256 * o + t)) (some (417005568 + 256 * o + t)) none none) := by
  unfold NewAddr Ctx
  k_fill
  intro rest p loose mean mg mb A env outer A₀ base h₀ L m s Q E B F X N T hA hf hke hR hret
  walk_at "MY cls"
  rename_i x d h' F' N' l1 l2
  have hxd : x ≠ d := fun e => by subst e; exact Nat.lt_irrefl _ l2
  have hr : ∀ q ∈ rest, q.1 ≠ d := fun q hq => Nat.ne_of_lt (l1 q hq)
  have hH := has_nil
  have hR' := hR.make (C := 1036) (pos := [.ref 647]) (kw := [(Str.ofString "target_address", .int t tt), (Str.ofString "source_address", .int o to), (Str.ofString "address_extension", .none), (Str.ofString "rx_only", .bool true)])
  k_dflt (refine' enter nInit gInit [.ref x, .ref 647, .none, .none, .int t tt, .int o to, .none, .none, .none, .bool true, .bool false] ?kR ?k1 ?k2 ?k3 ?k4 ?k5 ?kA ?kF ?kK ?k6 ?k7 ?k9 nInit_nd nInit_l nInit_g nInit_d gInit_d ?_ ?c2 ?c3 ?c4 ?c5; (case kR => assumption); (case kA => exact hA); (case kF => exact hf); (case kK => exact hke); (case k1 => k_asm); (case k2 => k_asm); (case k3 => k_asm); (case k4 => k_asm); (case k5 => k_asm); (case k6 => k_is); (case k7 => k_is); (case k9 => (refine' binds_K ?x ?q1 ?qk ?q2 ?q3 ?q4; (case x => k_in); (case q1 => exact rfl); (case qk => k_is); (case q2 => exact rfl); (case q3 => exact rfl); (case q4 => kernel_rfl))); (case c5 => decide); (case c2 => exact rfl); (case c3 => exact rfl); (case c4 => exact rfl); k_whole; intro AA g' L' h' m' tk hm hml hmg hmd hme R' hA' FG' F' N' B' X' T'; (try k_fold))
  simp only [nInit, List.zip_cons_cons, List.zip_nil_right, List.forall_mem_cons, List.not_mem_nil, false_implies, implies_true, and_true] at hm
  simp only [nInit, List.forall_mem_cons, List.not_mem_nil, false_implies, implies_true, and_true] at hml
  simp only [gInit, List.forall_mem_cons, List.not_mem_nil, false_implies, implies_true, and_true] at hmg
  simp only [nInit, List.forall_mem_cons, List.not_mem_nil, false_implies, implies_true, and_true] at hmd
  simp only [gInit, List.forall_mem_cons, List.not_mem_nil, false_implies, implies_true, and_true] at hme
  obtain ⟨hd0, hd1, hd2, hd3, hd4, hd5, hd6, hd7, hd8, hd9, hd10⟩ := hmd
  obtain ⟨he0, he1⟩ := hme
  obtain ⟨hl0, hl1, hl2, hl3, hl4, hl5, hl6, hl7, hl8, hl9, hl10⟩ := hml
  obtain ⟨hg0, hg1⟩ := hmg
  obtain ⟨hm0, hm1, hm2, hm3, hm4, hm5, hm6, hm7, hm8, hm9, hm10⟩ := hm
  clear hR hR' hA hf hke B
  w_top off
  repeat (first | (k_unfold; (try dsimp only)) | walk1 | (dsimp only; walk1) | (leave1; try dsimp only))
  
  refine' na_end hret l1 l2 ?F ?N ?H ?ad
  case F => k_asm
  case N => k_asm
  case H => assumption
  case ad => exact ⟨rfl, rfl, rfl, rfl, ⟨_, rfl⟩, ⟨_, rfl⟩, rfl, rfl, ⟨_, rfl⟩, ⟨_, rfl⟩, ⟨_, rfl⟩, ⟨_, rfl⟩, vi_num rfl (num_or (c := 6362) (by decide) (by decide) ho ho' ht ht'), vi_num rfl (num_or (c := 6363) (by decide) (by decide) ho ho' ht ht'), trivial, trivial, no_of rfl⟩


theorem pE11 (w : World) (a b t o : Int) (ta tb tt to : Tok) (ha : 0 ≤ a) (ha' : a ≤ 2047) (hb : 0 ≤ b) (hb' : b ≤ 2047) (ht : 0 ≤ t) (ht' : t ≤ 255) (ho : 0 ≤ o) (ho' : o ≤ 255) (hab : a ≠ b) :
   NewAddr w [.ref 649] [(Str.ofString "txid", .int a ta), (Str.ofString "rxid", .int b tb), (Str.ofString "target_address", .int t tt), (Str.ofString "source_address", .int o to)] (fun al => Ad al 649 false false false (some t) (some o) none (some b) none none (some t) 1 (some b) (some b) (some a) (some a)) := by
  unfold NewAddr Ctx
  k_fill
  intro rest p loose mean mg mb A env outer A₀ base h₀ L m s Q E B F X N T hA hf hke hR hret
  walk_at "MY cls"
  rename_i x d h' F' N' l1 l2
  have hxd : x ≠ d := fun e => by subst e; exact Nat.lt_irrefl _ l2
  have hr : ∀ q ∈ rest, q.1 ≠ d := fun q hq => Nat.ne_of_lt (l1 q hq)
  have hH := has_nil
  have hR' := hR.make (C := 1036) (pos := [.ref 649]) (kw := [(Str.ofString "txid", .int a ta), (Str.ofString "rxid", .int b tb), (Str.ofString "target_address", .int t tt), (Str.ofString "source_address", .int o to)])
  k_dflt (refine' enter nInit gInit [.ref x, .ref 649, .int a ta, .int b tb, .int t tt, .int o to, .none, .none, .none, .bool false, .bool false] ?kR ?k1 ?k2 ?k3 ?k4 ?k5 ?kA ?kF ?kK ?k6 ?k7 ?k9 nInit_nd nInit_l nInit_g nInit_d gInit_d ?_ ?c2 ?c3 ?c4 ?c5; (case kR => assumption); (case kA => exact hA); (case kF => exact hf); (case kK => exact hke); (case k1 => k_asm); (case k2 => k_asm); (case k3 => k_asm); (case k4 => k_asm); (case k5 => k_asm); (case k6 => k_is); (case k7 => k_is); (case k9 => (refine' binds_K ?x ?q1 ?qk ?q2 ?q3 ?q4; (case x => k_in); (case q1 => exact rfl); (case qk => k_is); (case q2 => exact rfl); (case q3 => exact rfl); (case q4 => kernel_rfl))); (case c5 => decide); (case c2 => exact rfl); (case c3 => exact rfl); (case c4 => exact rfl); k_whole; intro AA g' L' h' m' tk hm hml hmg hmd hme R' hA' FG' F' N' B' X' T'; (try k_fold))
  simp only [nInit, List.zip_cons_cons, List.zip_nil_right, List.forall_mem_cons, List.not_mem_nil, false_implies, implies_true, and_true] at hm
  simp only [nInit, List.forall_mem_cons, List.not_mem_nil, false_implies, implies_true, and_true] at hml
  simp only [gInit, List.forall_mem_cons, List.not_mem_nil, false_implies, implies_true, and_true] at hmg
  simp only [nInit, List.forall_mem_cons, List.not_mem_nil, false_implies, implies_true, and_true] at hmd
  simp only [gInit, List.forall_mem_cons, List.not_mem_nil, false_implies, implies_true, and_true] at hme
  obtain ⟨hd0, hd1, hd2, hd3, hd4, hd5, hd6, hd7, hd8, hd9, hd10⟩ := hmd
  obtain ⟨he0, he1⟩ := hme
  obtain ⟨hl0, hl1, hl2, hl3, hl4, hl5, hl6, hl7, hl8, hl9, hl10⟩ := hml
  obtain ⟨hg0, hg1⟩ := hmg
  obtain ⟨hm0, hm1, hm2, hm3, hm4, hm5, hm6, hm7, hm8, hm9, hm10⟩ := hm
  clear hR hR' hA hf hke B
  w_top off
  repeat (first | (k_unfold; (try dsimp only)) | walk1 | (dsimp only; walk1) | (leave1; try dsimp only))
  
  refine' na_end hret l1 l2 ?F ?N ?H ?ad
  case F => k_asm
  case N => k_asm
  case H => assumption
  case ad => exact ⟨rfl, rfl, rfl, rfl, ⟨_, rfl⟩, ⟨_, rfl⟩, rfl, ⟨_, rfl⟩, trivial, trivial, ⟨_, rfl⟩, ⟨_, rfl⟩, ⟨_, rfl⟩, ⟨_, rfl⟩, ⟨_, rfl⟩, ⟨_, rfl⟩, no_of rfl⟩

theorem pE29 (w : World) (a b t o : Int) (ta tb tt to : Tok) (ha : 0 ≤ a) (hb : 0 ≤ b) (ht : 0 ≤ t) (ht' : t ≤ 255) (ho : 0 ≤ o) (ho' : o ≤ 255) (hab : a ≠ b) :
   NewAddr w [.ref 651] [(Str.ofString "txid", .int a ta), (Str.ofString "rxid", .int b tb), (Str.ofString "target_address", .int t tt), (Str.ofString "source_address", .int o to)] (fun al => Ad al 651 false false true (some t) (some o) none (some b) none none (some t) 1 (some b) (some b) (some a) (some a)) := by
  unfold NewAddr Ctx
  k_fill
  intro rest p loose mean mg mb A env outer A₀ base h₀ L m s Q E B F X N T hA hf hke hR hret
  walk_at "MY cls"
  rename_i x d h' F' N' l1 l2
  have hxd : x ≠ d := fun e => by subst e; exact Nat.lt_irrefl _ l2
  have hr : ∀ q ∈ rest, q.1 ≠ d := fun q hq => Nat.ne_of_lt (l1 q hq)
  have hH := has_nil
  have hR' := hR.make (C := 1036) (pos := [.ref 651]) (kw := [(Str.ofString "txid", .int a ta), (Str.ofString "rxid", .int b tb), (Str.ofString "target_address", .int t tt), (Str.ofString "source_address", .int o to)])
  k_dflt (refine' enter nInit gInit [.ref x, .ref 651, .int a ta, .int b tb, .int t tt, .int o to, .none, .none, .none, .bool false, .bool false] ?kR ?k1 ?k2 ?k3 ?k4 ?k5 ?kA ?kF ?kK ?k6 ?k7 ?k9 nInit_nd nInit_l nInit_g nInit_d gInit_d ?_ ?c2 ?c3 ?c4 ?c5; (case kR => assumption); (case kA => exact hA); (case kF => exact hf); (case kK => exact hke); (case k1 => k_asm); (case k2 => k_asm); (case k3 => k_asm); (case k4 => k_asm); (case k5 => k_asm); (case k6 => k_is); (case k7 => k_is); (case k9 => (refine' binds_K ?x ?q1 ?qk ?q2 ?q3 ?q4; (case x => k_in); (case q1 => exact rfl); (case qk => k_is); (case q2 => exact rfl); (case q3 => exact rfl); (case q4 => kernel_rfl))); (case c5 => decide); (case c2 => exact rfl); (case c3 => exact rfl); (case c4 => exact rfl); k_whole; intro AA g' L' h' m' tk hm hml hmg hmd hme R' hA' FG' F' N' B' X' T'; (try k_fold))
  simp only [nInit, List.zip_cons_cons, List.zip_nil_right, List.forall_mem_cons, List.not_mem_nil, false_implies, implies_true, and_true] at hm
  simp only [nInit, List.forall_mem_cons, List.not_mem_nil, false_implies, implies_true, and_true] at hml
  simp only [gInit, List.forall_mem_cons, List.not_mem_nil, false_implies, implies_true, and_true] at hmg
  simp only [nInit, List.forall_mem_cons, List.not_mem_nil, false_implies, implies_true, and_true] at hmd
  simp only [gInit, List.forall_mem_cons, List.not_mem_nil, false_implies, implies_true, and_true] at hme
  obtain ⟨hd0, hd1, hd2, hd3, hd4, hd5, hd6, hd7, hd8, hd9, hd10⟩ := hmd
  obtain ⟨he0, he1⟩ := hme
  obtain ⟨hl0, hl1, hl2, hl3, hl4, hl5, hl6, hl7, hl8, hl9, hl10⟩ := hml
  obtain ⟨hg0, hg1⟩ := hmg
  obtain ⟨hm0, hm1, hm2, hm3, hm4, hm5, hm6, hm7, hm8, hm9, hm10⟩ := hm
  clear hR hR' hA hf hke B
  w_top off
  repeat (first | (k_unfold; (try dsimp only)) | walk1 | (dsimp only; walk1) | (leave1; try dsimp only))
  
  refine' na_end hret l1 l2 ?F ?N ?H ?ad
  case F => k_asm
  case N => k_asm
  case H => assumption
  case ad => exact ⟨rfl, rfl, rfl, rfl, ⟨_, rfl⟩, ⟨_, rfl⟩, rfl, ⟨_, rfl⟩, trivial, trivial, ⟨_, rfl⟩, ⟨_, rfl⟩, ⟨_, rfl⟩, ⟨_, rfl⟩, ⟨_, rfl⟩, ⟨_, rfl⟩, no_of rfl⟩

theorem pM11 (w : World) (a b e : Int) (ta tb te : Tok) (ha : 0 ≤ a) (ha' : a ≤ 2047) (hb : 0 ≤ b) (hb' : b ≤ 2047) (he : 0 ≤ e) (he' : e ≤ 255) (hab : a ≠ b) :
   NewAddr w [.ref 653] [(Str.ofString "txid", .int a ta), (Str.ofString "rxid", .int b tb), (Str.ofString "address_extension", .int e te)] (fun al => Ad al 653 false false false none none (some e) (some b) none none (some e) 1 (some b) (some b) (some a) (some a)) := by
  unfold NewAddr Ctx
  k_fill
  intro rest p loose mean mg mb A env outer A₀ base h₀ L m s Q E B F X N T hA hf hke hR hret
  walk_at "MY cls"
  rename_i x d h' F' N' l1 l2
  have hxd : x ≠ d := fun e => by subst e; exact Nat.lt_irrefl _ l2
  have hr : ∀ q ∈ rest, q.1 ≠ d := fun q hq => Nat.ne_of_lt (l1 q hq)
  have hH := has_nil
  have hR' := hR.make (C := 1036) (pos := [.ref 653]) (kw := [(Str.ofString "txid", .int a ta), (Str.ofString "rxid", .int b tb), (Str.ofString "address_extension", .int e te)])
  k_dflt (refine' enter nInit gInit [.ref x, .ref 653, .int a ta, .int b tb, .none, .none, .none, .none, .int e te, .bool false, .bool false] ?kR ?k1 ?k2 ?k3 ?k4 ?k5 ?kA ?kF ?kK ?k6 ?k7 ?k9 nInit_nd nInit_l nInit_g nInit_d gInit_d ?_ ?c2 ?c3 ?c4 ?c5; (case kR => assumption); (case kA => exact hA); (case kF => exact hf); (case kK => exact hke); (case k1 => k_asm); (case k2 => k_asm); (case k3 => k_asm); (case k4 => k_asm); (case k5 => k_asm); (case k6 => k_is); (case k7 => k_is); (case k9 => (refine' binds_K ?x ?q1 ?qk ?q2 ?q3 ?q4; (case x => k_in); (case q1 => exact rfl); (case qk => k_is); (case q2 => exact rfl); (case q3 => exact rfl); (case q4 => kernel_rfl))); (case c5 => decide); (case c2 => exact rfl); (case c3 => exact rfl); (case c4 => exact rfl); k_whole; intro AA g' L' h' m' tk hm hml hmg hmd hme R' hA' FG' F' N' B' X' T'; (try k_fold))
  simp only [nInit, List.zip_cons_cons, List.zip_nil_right, List.forall_mem_cons, List.not_mem_nil, false_implies, implies_true, and_true] at hm
  simp only [nInit, List.forall_mem_cons, List.not_mem_nil, false_implies, implies_true, and_true] at hml
  simp only [gInit, List.forall_mem_cons, List.not_mem_nil, false_implies, implies_true, and_true] at hmg
  simp only [nInit, List.forall_mem_cons, List.not_mem_nil, false_implies, implies_true, and_true] at hmd
  simp only [gInit, List.forall_mem_cons, List.not_mem_nil, false_implies, implies_true, and_true] at hme
  obtain ⟨hd0, hd1, hd2, hd3, hd4, hd5, hd6, hd7, hd8, hd9, hd10⟩ := hmd
  obtain ⟨he0, he1⟩ := hme
  obtain ⟨hl0, hl1, hl2, hl3, hl4, hl5, hl6, hl7, hl8, hl9, hl10⟩ := hml
  obtain ⟨hg0, hg1⟩ := hmg
  obtain ⟨hm0, hm1, hm2, hm3, hm4, hm5, hm6, hm7, hm8, hm9, hm10⟩ := hm
  clear hR hR' hA hf hke B
  w_top off
  repeat (first | (k_unfold; (try dsimp only)) | walk1 | (dsimp only; walk1) | (leave1; try dsimp only))
  
  refine' na_end hret l1 l2 ?F ?N ?H ?ad
  case F => k_asm
  case N => k_asm
  case H => assumption
  case ad => exact ⟨rfl, rfl, rfl, rfl, rfl, rfl, ⟨_, rfl⟩, ⟨_, rfl⟩, trivial, trivial, ⟨_, rfl⟩, ⟨_, rfl⟩, ⟨_, rfl⟩, ⟨_, rfl⟩, ⟨_, rfl⟩, ⟨_, rfl⟩, no_of rfl⟩

theorem hE11 (w : World) (b o : Int) (tb to : Tok) (hb : 0 ≤ b) (hb' : b ≤ 2047) (ho : 0 ≤ o) (ho' : o ≤ 255) :
   NewAddr w [.ref 649] [(Str.ofString "rxid", .int b tb), (Str.ofString "source_address", .int o to), (Str.ofString "rx_only", .bool true)] (fun al => Ad al 649 true false false none (some o) none (some b) none none none 1 (some b) (some b) none none) := by
  unfold NewAddr Ctx
  k_fill
  intro rest p loose mean mg mb A env outer A₀ base h₀ L m s Q E B F X N T hA hf hke hR hret
  walk_at "MY cls"
  rename_i x d h' F' N' l1 l2
  have hxd : x ≠ d := fun e => by subst e; exact Nat.lt_irrefl _ l2
  have hr : ∀ q ∈ rest, q.1 ≠ d := fun q hq => Nat.ne_of_lt (l1 q hq)
  have hH := has_nil
  have hR' := hR.make (C := 1036) (pos := [.ref 649]) (kw := [(Str.ofString "rxid", .int b tb), (Str.ofString "source_address", .int o to), (Str.ofString "rx_only", .bool true)])
  k_dflt (refine' enter nInit gInit [.ref x, .ref 649, .none, .int b tb, .none, .int o to, .none, .none, .none, .bool true, .bool false] ?kR ?k1 ?k2 ?k3 ?k4 ?k5 ?kA ?kF ?kK ?k6 ?k7 ?k9 nInit_nd nInit_l nInit_g nInit_d gInit_d ?_ ?c2 ?c3 ?c4 ?c5; (case kR => assumption); (case kA => exact hA); (case kF => exact hf); (case kK => exact hke); (case k1 => k_asm); (case k2 => k_asm); (case k3 => k_asm); (case k4 => k_asm); (case k5 => k_asm); (case k6 => k_is); (case k7 => k_is); (case k9 => (refine' binds_K ?x ?q1 ?qk ?q2 ?q3 ?q4; (case x => k_in); (case q1 => exact rfl); (case qk => k_is); (case q2 => exact rfl); (case q3 => exact rfl); (case q4 => kernel_rfl))); (case c5 => decide); (case c2 => exact rfl); (case c3 => exact rfl); (case c4 => exact rfl); k_whole; intro AA g' L' h' m' tk hm hml hmg hmd hme R' hA' FG' F' N' B' X' T'; (try k_fold))
  simp only [nInit, List.zip_cons_cons, List.zip_nil_right, List.forall_mem_cons, List.not_mem_nil, false_implies, implies_true, and_true] at hm
  simp only [nInit, List.forall_mem_cons, List.not_mem_nil, false_implies, implies_true, and_true] at hml
  simp only [gInit, List.forall_mem_cons, List.not_mem_nil, false_implies, implies_true, and_true] at hmg
  simp only [nInit, List.forall_mem_cons, List.not_mem_nil, false_implies, implies_true, and_true] at hmd
  simp only [gInit, List.forall_mem_cons, List.not_mem_nil, false_implies, implies_true, and_true] at hme
  obtain ⟨hd0, hd1, hd2, hd3, hd4, hd5, hd6, hd7, hd8, hd9, hd10⟩ := hmd
  obtain ⟨he0, he1⟩ := hme
  obtain ⟨hl0, hl1, hl2, hl3, hl4, hl5, hl6, hl7, hl8, hl9, hl10⟩ := hml
  obtain ⟨hg0, hg1⟩ := hmg
  obtain ⟨hm0, hm1, hm2, hm3, hm4, hm5, hm6, hm7, hm8, hm9, hm10⟩ := hm
  clear hR hR' hA hf hke B
  w_top off
  repeat (first | (k_unfold; (try dsimp only)) | walk1 | (dsimp only; walk1) | (leave1; try dsimp only))
  
  refine' na_end hret l1 l2 ?F ?N ?H ?ad
  case F => k_asm
  case N => k_asm
  case H => assumption
  case ad => exact ⟨rfl, rfl, rfl, rfl, rfl, ⟨_, rfl⟩, rfl, ⟨_, rfl⟩, trivial, trivial, ⟨_, rfl⟩, ⟨_, rfl⟩, ⟨_, rfl⟩, ⟨_, rfl⟩, trivial, trivial, no_of rfl⟩

theorem hE29 (w : World) (b o : Int) (tb to : Tok) (hb : 0 ≤ b) (ho : 0 ≤ o) (ho' : o ≤ 255) :
   NewAddr w [.ref 651] [(Str.ofString "rxid", .int b tb), (Str.ofString "source_address", .int o to), (Str.ofString "rx_only", .bool true)] (fun al => Ad al 651 true false true none (some o) none (some b) none none none 1 (some b) (some b) none none) := by
  unfold NewAddr Ctx
  k_fill
  intro rest p loose mean mg mb A env outer A₀ base h₀ L m s Q E B F X N T hA hf hke hR hret
  walk_at "MY cls"
  rename_i x d h' F' N' l1 l2
  have hxd : x ≠ d := fun e => by subst e; exact Nat.lt_irrefl _ l2
  have hr : ∀ q ∈ rest, q.1 ≠ d := fun q hq => Nat.ne_of_lt (l1 q hq)
  have hH := has_nil
  have hR' := hR.make (C := 1036) (pos := [.ref 651]) (kw := [(Str.ofString "rxid", .int b tb), (Str.ofString "source_address", .int o to), (Str.ofString "rx_only", .bool true)])
  k_dflt (refine' enter nInit gInit [.ref x, .ref 651, .none, .int b tb, .none, .int o to, .none, .none, .none, .bool true, .bool false] ?kR ?k1 ?k2 ?k3 ?k4 ?k5 ?kA ?kF ?kK ?k6 ?k7 ?k9 nInit_nd nInit_l nInit_g nInit_d gInit_d ?_ ?c2 ?c3 ?c4 ?c5; (case kR => assumption); (case kA => exact hA); (case kF => exact hf); (case kK => exact hke); (case k1 => k_asm); (case k2 => k_asm); (case k3 => k_asm); (case k4 => k_asm); (case k5 => k_asm); (case k6 => k_is); (case k7 => k_is); (case k9 => (refine' binds_K ?x ?q1 ?qk ?q2 ?q3 ?q4; (case x => k_in); (case q1 => exact rfl); (case qk => k_is); (case q2 => exact rfl); (case q3 => exact rfl); (case q4 => kernel_rfl))); (case c5 => decide); (case c2 => exact rfl); (case c3 => exact rfl); (case c4 => exact rfl); k_whole; intro AA g' L' h' m' tk hm hml hmg hmd hme R' hA' FG' F' N' B' X' T'; (try k_fold))
  simp only [nInit, List.zip_cons_cons, List.zip_nil_right, List.forall_mem_cons, List.not_mem_nil, false_implies, implies_true, and_true] at hm
  simp only [nInit, List.forall_mem_cons, List.not_mem_nil, false_implies, implies_true, and_true] at hml
  simp only [gInit, List.forall_mem_cons, List.not_mem_nil, false_implies, implies_true, and_true] at hmg
  simp only [nInit, List.forall_mem_cons, List.not_mem_nil, false_implies, implies_true, and_true] at hmd
  simp only [gInit, List.forall_mem_cons, List.not_mem_nil, false_implies, implies_true, and_true] at hme
  obtain ⟨hd0, hd1, hd2, hd3, hd4, hd5, hd6, hd7, hd8, hd9, hd10⟩ := hmd
  obtain ⟨he0, he1⟩ := hme
  obtain ⟨hl0, hl1, hl2, hl3, hl4, hl5, hl6, hl7, hl8, hl9, hl10⟩ := hml
  obtain ⟨hg0, hg1⟩ := hmg
  obtain ⟨hm0, hm1, hm2, hm3, hm4, hm5, hm6, hm7, hm8, hm9, hm10⟩ := hm
  clear hR hR' hA hf hke B
  w_top off
  repeat (first | (k_unfold; (try dsimp only)) | walk1 | (dsimp only; walk1) | (leave1; try dsimp only))
  
  refine' na_end hret l1 l2 ?F ?N ?H ?ad
  case F => k_asm
  case N => k_asm
  case H => assumption
  case ad => exact ⟨rfl, rfl, rfl, rfl, rfl, ⟨_, rfl⟩, rfl, ⟨_, rfl⟩, trivial, trivial, ⟨_, rfl⟩, ⟨_, rfl⟩, ⟨_, rfl⟩, ⟨_, rfl⟩, trivial, trivial, no_of rfl⟩

theorem hM11 (w : World) (b e : Int) (tb te : Tok) (hb : 0 ≤ b) (hb' : b ≤ 2047) (he : 0 ≤ e) (he' : e ≤ 255) :
   NewAddr w [.ref 653] [(Str.ofString "rxid", .int b tb), (Str.ofString "address_extension", .int e te), (Str.ofString "rx_only", .bool true)] (fun al => Ad al 653 true false false none none (some e) (some b) none none none 1 (some b) (some b) none none) := by
  unfold NewAddr Ctx
  k_fill
  intro rest p loose mean mg mb A env outer A₀ base h₀ L m s Q E B F X N T hA hf hke hR hret
  walk_at "MY cls"
  rename_i x d h' F' N' l1 l2
  have hxd : x ≠ d := fun e => by subst e; exact Nat.lt_irrefl _ l2
  have hr : ∀ q ∈ rest, q.1 ≠ d := fun q hq => Nat.ne_of_lt (l1 q hq)
  have hH := has_nil
  have hR' := hR.make (C := 1036) (pos := [.ref 653]) (kw := [(Str.ofString "rxid", .int b tb), (Str.ofString "address_extension", .int e te), (Str.ofString "rx_only", .bool true)])
  k_dflt (refine' enter nInit gInit [.ref x, .ref 653, .none, .int b tb, .none, .none, .none, .none, .int e te, .bool true, .bool false] ?kR ?k1 ?k2 ?k3 ?k4 ?k5 ?kA ?kF ?kK ?k6 ?k7 ?k9 nInit_nd nInit_l nInit_g nInit_d gInit_d ?_ ?c2 ?c3 ?c4 ?c5; (case kR => assumption); (case kA => exact hA); (case kF => exact hf); (case kK => exact hke); (case k1 => k_asm); (case k2 => k_asm); (case k3 => k_asm); (case k4 => k_asm); (case k5 => k_asm); (case k6 => k_is); (case k7 => k_is); (case k9 => (refine' binds_K ?x ?q1 ?qk ?q2 ?q3 ?q4; (case x => k_in); (case q1 => exact rfl); (case qk => k_is); (case q2 => exact rfl); (case q3 => exact rfl); (case q4 => kernel_rfl))); (case c5 => decide); (case c2 => exact rfl); (case c3 => exact rfl); (case c4 => exact rfl); k_whole; intro AA g' L' h' m' tk hm hml hmg hmd hme R' hA' FG' F' N' B' X' T'; (try k_fold))
  simp only [nInit, List.zip_cons_cons, List.zip_nil_right, List.forall_mem_cons, List.not_mem_nil, false_implies, implies_true, and_true] at hm
  simp only [nInit, List.forall_mem_cons, List.not_mem_nil, false_implies, implies_true, and_true] at hml
  simp only [gInit, List.forall_mem_cons, List.not_mem_nil, false_implies, implies_true, and_true] at hmg
  simp only [nInit, List.forall_mem_cons, List.not_mem_nil, false_implies, implies_true, and_true] at hmd
  simp only [gInit, List.forall_mem_cons, List.not_mem_nil, false_implies, implies_true, and_true] at hme
  obtain ⟨hd0, hd1, hd2, hd3, hd4, hd5, hd6, hd7, hd8, hd9, hd10⟩ := hmd
  obtain ⟨he0, he1⟩ := hme
  obtain ⟨hl0, hl1, hl2, hl3, hl4, hl5, hl6, hl7, hl8, hl9, hl10⟩ := hml
  obtain ⟨hg0, hg1⟩ := hmg
  obtain ⟨hm0, hm1, hm2, hm3, hm4, hm5, hm6, hm7, hm8, hm9, hm10⟩ := hm
  clear hR hR' hA hf hke B
  w_top off
  repeat (first | (k_unfold; (try dsimp only)) | walk1 | (dsimp only; walk1) | (leave1; try dsimp only))
  
  refine' na_end hret l1 l2 ?F ?N ?H ?ad
  case F => k_asm
  case N => k_asm
  case H => assumption
  case ad => exact ⟨rfl, rfl, rfl, rfl, rfl, rfl, ⟨_, rfl⟩, ⟨_, rfl⟩, trivial, trivial, ⟨_, rfl⟩, ⟨_, rfl⟩, ⟨_, rfl⟩, ⟨_, rfl⟩, trivial, trivial, no_of rfl⟩


theorem pM29 (w : World) (t o e : Int) (tt to te : Tok) (ht : 0 ≤ t) (ht' : t ≤ 255) (ho : 0 ≤ o) (ho' : o ≤ 255) (he : 0 ≤ e) (he' : e ≤ 255) :
   NewAddr w [.ref 655] [(Str.ofString "target_address", .int t tt), (Str.ofString "source_address", .int o to), (Str.ofString "address_extension", .int e te)] (fun al => Ad al 655 false false true (some t) (some o) (some e) none (some 416153600) (some 416088064) (some e) 1 (some (416153600 + 256 * o + t)) (some (416088064 + 256 * o + t)) (some (416153600 + 256 * t + o)) (some (416088064 + 256 * t + o))) := by
  unfold NewAddr Ctx
  k_fill
  intro rest p loose mean mg mb A env outer A₀ base h₀ L m s Q E B F X N T hA hf hke hR hret
  walk_at "MY cls"
  rename_i x d h' F' N' l1 l2
  have hxd : x ≠ d := fun e => by subst e; exact Nat.lt_irrefl _ l2
  have hr : ∀ q ∈ rest, q.1 ≠ d := fun q hq => Nat.ne_of_lt (l1 q hq)
  have hH := has_nil
  have hR' := hR.make (C := 1036) (pos := [.ref 655]) (kw := [(Str.ofString "target_address", .int t tt), (Str.ofString "source_address", .int o to), (Str.ofString "address_extension", .int e te)])
  k_dflt (refine' enter nInit gInit [.ref x, .ref 655, .none, .none, .int t tt, .int o to, .none, .none, .int e te, .bool false, .bool false] ?kR ?k1 ?k2 ?k3 ?k4 ?k5 ?kA ?kF ?kK ?k6 ?k7 ?k9 nInit_nd nInit_l nInit_g nInit_d gInit_d ?_ ?c2 ?c3 ?c4 ?c5; (case kR => assumption); (case kA => exact hA); (case kF => exact hf); (case kK => exact hke); (case k1 => k_asm); (case k2 => k_asm); (case k3 => k_asm); (case k4 => k_asm); (case k5 => k_asm); (case k6 => k_is); (case k7 => k_is); (case k9 => (refine' binds_K ?x ?q1 ?qk ?q2 ?q3 ?q4; (case x => k_in); (case q1 => exact rfl); (case qk => k_is); (case q2 => exact rfl); (case q3 => exact rfl); (case q4 => kernel_rfl))); (case c5 => decide); (case c2 => exact rfl); (case c3 => exact rfl); (case c4 => exact rfl); k_whole; intro AA g' L' h' m' tk hm hml hmg hmd hme R' hA' FG' F' N' B' X' T'; (try k_fold))
  simp only [nInit, List.zip_cons_cons, List.zip_nil_right, List.forall_mem_cons, List.not_mem_nil, false_implies, implies_true, and_true] at hm
  simp only [nInit, List.forall_mem_cons, List.not_mem_nil, false_implies, implies_true, and_true] at hml
  simp only [gInit, List.forall_mem_cons, List.not_mem_nil, false_implies, implies_true, and_true] at hmg
  simp only [nInit, List.forall_mem_cons, List.not_mem_nil, false_implies, implies_true, and_true] at hmd
  simp only [gInit, List.forall_mem_cons, List.not_mem_nil, false_implies, implies_true, and_true] at hme
  obtain ⟨hd0, hd1, hd2, hd3, hd4, hd5, hd6, hd7, hd8, hd9, hd10⟩ := hmd
  obtain ⟨he0, he1⟩ := hme
  obtain ⟨hl0, hl1, hl2, hl3, hl4, hl5, hl6, hl7, hl8, hl9, hl10⟩ := hml
  obtain ⟨hg0, hg1⟩ := hmg
  obtain ⟨hm0, hm1, hm2, hm3, hm4, hm5, hm6, hm7, hm8, hm9, hm10⟩ := hm
  clear hR hR' hA hf hke B
  w_top off
  repeat (first | (k_unfold; (try dsimp only)) | walk1 | (dsimp only; walk1) | (leave1; try dsimp only))
  
  refine' na_end hret l1 l2 ?F ?N ?H ?ad
  case F => k_asm
  case N => k_asm
  case H => assumption
  case ad => exact ⟨rfl, rfl, rfl, rfl, ⟨_, rfl⟩, ⟨_, rfl⟩, ⟨_, rfl⟩, rfl, ⟨_, rfl⟩, ⟨_, rfl⟩, ⟨_, rfl⟩, ⟨_, rfl⟩, vi_num rfl (num_or (c := 6350) (by decide) (by decide) ho ho' ht ht'), vi_num rfl (num_or (c := 6349) (by decide) (by decide) ho ho' ht ht'), vi_num rfl (num_or (c := 6350) (by decide) (by decide) ht ht' ho ho'), vi_num rfl (num_or (c := 6349) (by decide) (by decide) ht ht' ho ho'), no_of rfl⟩

theorem hM29 (w : World) (t o e : Int) (tt to te : Tok) (ht : 0 ≤ t) (ht' : t ≤ 255) (ho : 0 ≤ o) (ho' : o ≤ 255) (he : 0 ≤ e) (he' : e ≤ 255) :
   NewAddr w [.ref 655] [(Str.ofString "target_address", .int t tt), (Str.ofString "source_address", .int o to), (Str.ofString "address_extension", .int e te), (Str.ofString "rx_only", .bool true)] (fun al => Ad al 655 true false true (some t) (some o) (some e) none (some 416153600) (some 416088064) none 1 (some (416153600 + 256 * o + t)) (some (416088064 + 256 * o + t)) none none) := by
  unfold NewAddr Ctx
  k_fill
  intro rest p loose mean mg mb A env outer A₀ base h₀ L m s Q E B F X N T hA hf hke hR hret
  walk_at "MY cls"
  rename_i x d h' F' N' l1 l2
  have hxd : x ≠ d := fun e => by subst e; exact Nat.lt_irrefl _ l2
  have hr : ∀ q ∈ rest, q.1 ≠ d := fun q hq => Nat.ne_of_lt (l1 q hq)
  have hH := has_nil
  have hR' := hR.make (C := 1036) (pos := [.ref 655]) (kw := [(Str.ofString "target_address", .int t tt), (Str.ofString "source_address", .int o to), (Str.ofString "address_extension", .int e te), (Str.ofString "rx_only", .bool true)])
  k_dflt (refine' enter nInit gInit [.ref x, .ref 655, .none, .none, .int t tt, .int o to, .none, .none, .int e te, .bool true, .bool false] ?kR ?k1 ?k2 ?k3 ?k4 ?k5 ?kA ?kF ?kK ?k6 ?k7 ?k9 nInit_nd nInit_l nInit_g nInit_d gInit_d ?_ ?c2 ?c3 ?c4 ?c5; (case kR => assumption); (case kA => exact hA); (case kF => exact hf); (case kK => exact hke); (case k1 => k_asm); (case k2 => k_asm); (case k3 => k_asm); (case k4 => k_asm); (case k5 => k_asm); (case k6 => k_is); (case k7 => k_is); (case k9 => (refine' binds_K ?x ?q1 ?qk ?q2 ?q3 ?q4; (case x => k_in); (case q1 => exact rfl); (case qk => k_is); (case q2 => exact rfl); (case q3 => exact rfl); (case q4 => kernel_rfl))); (case c5 => decide); (case c2 => exact rfl); (case c3 => exact rfl); (case c4 => exact rfl); k_whole; intro AA g' L' h' m' tk hm hml hmg hmd hme R' hA' FG' F' N' B' X' T'; (try k_fold))
  simp only [nInit, List.zip_cons_cons, List.zip_nil_right, List.forall_mem_cons, List.not_mem_nil, false_implies, implies_true, and_true] at hm
  simp only [nInit, List.forall_mem_cons, List.not_mem_nil, false_implies, implies_true, and_true] at hml
  simp only [gInit, List.forall_mem_cons, List.not_mem_nil, false_implies, implies_true, and_true] at hmg
  simp only [nInit, List.forall_mem_cons, List.not_mem_nil, false_implies, implies_true, and_true] at hmd
  simp only [gInit, List.forall_mem_cons, List.not_mem_nil, false_implies, implies_true, and_true] at hme
  obtain ⟨hd0, hd1, hd2, hd3, hd4, hd5, hd6, hd7, hd8, hd9, hd10⟩ := hmd
  obtain ⟨he0, he1⟩ := hme
  obtain ⟨hl0, hl1, hl2, hl3, hl4, hl5, hl6, hl7, hl8, hl9, hl10⟩ := hml
  obtain ⟨hg0, hg1⟩ := hmg
  obtain ⟨hm0, hm1, hm2, hm3, hm4, hm5, hm6, hm7, hm8, hm9, hm10⟩ := hm
  clear hR hR' hA hf hke B
  w_top off
  repeat (first | (k_unfold; (try dsimp only)) | walk1 | (dsimp only; walk1) | (leave1; try dsimp only))
  
  refine' na_end hret l1 l2 ?F ?N ?H ?ad
  case F => k_asm
  case N => k_asm
  case H => assumption
  case ad => exact ⟨rfl, rfl, rfl, rfl, ⟨_, rfl⟩, ⟨_, rfl⟩, ⟨_, rfl⟩, rfl, ⟨_, rfl⟩, ⟨_, rfl⟩, ⟨_, rfl⟩, ⟨_, rfl⟩, vi_num rfl (num_or (c := 6350) (by decide) (by decide) ho ho' ht ht'), vi_num rfl (num_or (c := 6349) (by decide) (by decide) ho ho' ht ht'), trivial, trivial, no_of rfl⟩

theorem sE29 (w : World) (a t : Int) (ta tt : Tok) (ha : 0 ≤ a) (ht : 0 ≤ t) (ht' : t ≤ 255) :
   NewAddr w [.ref 651] [(Str.ofString "txid", .int a ta), (Str.ofString "target_address", .int t tt), (Str.ofString "tx_only", .bool true)] (fun al => Ad al 651 false true true (some t) none none none none none (some t) 0 none none (some a) (some a)) := by
  unfold NewAddr Ctx
  k_fill
  intro rest p loose mean mg mb A env outer A₀ base h₀ L m s Q E B F X N T hA hf hke hR hret
  walk_at "MY cls"
  rename_i x d h' F' N' l1 l2
  have hxd : x ≠ d := fun e => by subst e; exact Nat.lt_irrefl _ l2
  have hr : ∀ q ∈ rest, q.1 ≠ d := fun q hq => Nat.ne_of_lt (l1 q hq)
  have hH := has_nil
  have hR' := hR.make (C := 1036) (pos := [.ref 651]) (kw := [(Str.ofString "txid", .int a ta), (Str.ofString "target_address", .int t tt), (Str.ofString "tx_only", .bool true)])
  k_dflt (refine' enter nInit gInit [.ref x, .ref 651, .int a ta, .none, .int t tt, .none, .none, .none, .none, .bool false, .bool true] ?kR ?k1 ?k2 ?k3 ?k4 ?k5 ?kA ?kF ?kK ?k6 ?k7 ?k9 nInit_nd nInit_l nInit_g nInit_d gInit_d ?_ ?c2 ?c3 ?c4 ?c5; (case kR => assumption); (case kA => exact hA); (case kF => exact hf); (case kK => exact hke); (case k1 => k_asm); (case k2 => k_asm); (case k3 => k_asm); (case k4 => k_asm); (case k5 => k_asm); (case k6 => k_is); (case k7 => k_is); (case k9 => (refine' binds_K ?x ?q1 ?qk ?q2 ?q3 ?q4; (case x => k_in); (case q1 => exact rfl); (case qk => k_is); (case q2 => exact rfl); (case q3 => exact rfl); (case q4 => kernel_rfl))); (case c5 => decide); (case c2 => exact rfl); (case c3 => exact rfl); (case c4 => exact rfl); k_whole; intro AA g' L' h' m' tk hm hml hmg hmd hme R' hA' FG' F' N' B' X' T'; (try k_fold))
  simp only [nInit, List.zip_cons_cons, List.zip_nil_right, List.forall_mem_cons, List.not_mem_nil, false_implies, implies_true, and_true] at hm
  simp only [nInit, List.forall_mem_cons, List.not_mem_nil, false_implies, implies_true, and_true] at hml
  simp only [gInit, List.forall_mem_cons, List.not_mem_nil, false_implies, implies_true, and_true] at hmg
  simp only [nInit, List.forall_mem_cons, List.not_mem_nil, false_implies, implies_true, and_true] at hmd
  simp only [gInit, List.forall_mem_cons, List.not_mem_nil, false_implies, implies_true, and_true] at hme
  obtain ⟨hd0, hd1, hd2, hd3, hd4, hd5, hd6, hd7, hd8, hd9, hd10⟩ := hmd
  obtain ⟨he0, he1⟩ := hme
  obtain ⟨hl0, hl1, hl2, hl3, hl4, hl5, hl6, hl7, hl8, hl9, hl10⟩ := hml
  obtain ⟨hg0, hg1⟩ := hmg
  obtain ⟨hm0, hm1, hm2, hm3, hm4, hm5, hm6, hm7, hm8, hm9, hm10⟩ := hm
  clear hR hR' hA hf hke B
  w_top off
  repeat (first | (k_unfold; (try dsimp only)) | walk1 | (dsimp only; walk1) | (leave1; try dsimp only))
  
  refine' na_end hret l1 l2 ?F ?N ?H ?ad
  case F => k_asm
  case N => k_asm
  case H => assumption
  case ad => exact ⟨rfl, rfl, rfl, rfl, ⟨_, rfl⟩, rfl, rfl, rfl, trivial, trivial, ⟨_, rfl⟩, ⟨_, rfl⟩, trivial, trivial, ⟨_, rfl⟩, ⟨_, rfl⟩, no_of rfl⟩

theorem sN11 (w : World) (a : Int) (ta : Tok) (ha : 0 ≤ a) (ha' : a ≤ 2047) :
   NewAddr w [.ref 643] [(Str.ofString "txid", .int a ta), (Str.ofString "tx_only", .bool true)] (fun al => Ad al 643 false true false none none none none none none none 0 none none (some a) (some a)) := by
  unfold NewAddr Ctx
  k_fill
  intro rest p loose mean mg mb A env outer A₀ base h₀ L m s Q E B F X N T hA hf hke hR hret
  walk_at "MY cls"
  rename_i x d h' F' N' l1 l2
  have hxd : x ≠ d := fun e => by subst e; exact Nat.lt_irrefl _ l2
  have hr : ∀ q ∈ rest, q.1 ≠ d := fun q hq => Nat.ne_of_lt (l1 q hq)
  have hH := has_nil
  have hR' := hR.make (C := 1036) (pos := [.ref 643]) (kw := [(Str.ofString "txid", .int a ta), (Str.ofString "tx_only", .bool true)])
  k_dflt (refine' enter nInit gInit [.ref x, .ref 643, .int a ta, .none, .none, .none, .none, .none, .none, .bool false, .bool true] ?kR ?k1 ?k2 ?k3 ?k4 ?k5 ?kA ?kF ?kK ?k6 ?k7 ?k9 nInit_nd nInit_l nInit_g nInit_d gInit_d ?_ ?c2 ?c3 ?c4 ?c5; (case kR => assumption); (case kA => exact hA); (case kF => exact hf); (case kK => exact hke); (case k1 => k_asm); (case k2 => k_asm); (case k3 => k_asm); (case k4 => k_asm); (case k5 => k_asm); (case k6 => k_is); (case k7 => k_is); (case k9 => (refine' binds_K ?x ?q1 ?qk ?q2 ?q3 ?q4; (case x => k_in); (case q1 => exact rfl); (case qk => k_is); (case q2 => exact rfl); (case q3 => exact rfl); (case q4 => kernel_rfl))); (case c5 => decide); (case c2 => exact rfl); (case c3 => exact rfl); (case c4 => exact rfl); k_whole; intro AA g' L' h' m' tk hm hml hmg hmd hme R' hA' FG' F' N' B' X' T'; (try k_fold))
  simp only [nInit, List.zip_cons_cons, List.zip_nil_right, List.forall_mem_cons, List.not_mem_nil, false_implies, implies_true, and_true] at hm
  simp only [nInit, List.forall_mem_cons, List.not_mem_nil, false_implies, implies_true, and_true] at hml
  simp only [gInit, List.forall_mem_cons, List.not_mem_nil, false_implies, implies_true, and_true] at hmg
  simp only [nInit, List.forall_mem_cons, List.not_mem_nil, false_implies, implies_true, and_true] at hmd
  simp only [gInit, List.forall_mem_cons, List.not_mem_nil, false_implies, implies_true, and_true] at hme
  obtain ⟨hd0, hd1, hd2, hd3, hd4, hd5, hd6, hd7, hd8, hd9, hd10⟩ := hmd
  obtain ⟨he0, he1⟩ := hme
  obtain ⟨hl0, hl1, hl2, hl3, hl4, hl5, hl6, hl7, hl8, hl9, hl10⟩ := hml
  obtain ⟨hg0, hg1⟩ := hmg
  obtain ⟨hm0, hm1, hm2, hm3, hm4, hm5, hm6, hm7, hm8, hm9, hm10⟩ := hm
  clear hR hR' hA hf hke B
  w_top off
  repeat (first | (k_unfold; (try dsimp only)) | walk1 | (dsimp only; walk1) | (leave1; try dsimp only))
  
  refine' na_end hret l1 l2 ?F ?N ?H ?ad
  case F => k_asm
  case N => k_asm
  case H => assumption
  case ad => exact ⟨rfl, rfl, rfl, rfl, rfl, rfl, rfl, rfl, trivial, trivial, ⟨_, rfl⟩, ⟨_, rfl⟩, trivial, trivial, ⟨_, rfl⟩, ⟨_, rfl⟩, no_of rfl⟩

theorem sNF29 (w : World) (t o : Int) (tt to : Tok) (ht : 0 ≤ t) (ht' : t ≤ 255) (ho : 0 ≤ o) (ho' : o ≤ 255) :
   NewAddr w [.ref 647] [(Str.ofString "target_address", .int t tt), (Str.ofString "source_address", .int o to), (Str.ofString "tx_only", .bool true)] (fun al => Ad al 647 false true true (some t) (some o) none none (some 416940032) (some 417005568) none 0 none none (some (416940032 + 256 * t + o)) (some (417005568 + 256 * t + o))) := by
  unfold NewAddr Ctx
  k_fill
  intro rest p loose mean mg mb A env outer A₀ base h₀ L m s Q E B F X N T hA hf hke hR hret
  walk_at "MY cls"
  rename_i x d h' F' N' l1 l2
  have hxd : x ≠ d := fun e => by subst e; exact Nat.lt_irrefl _ l2
  have hr : ∀ q ∈ rest, q.1 ≠ d := fun q hq => Nat.ne_of_lt (l1 q hq)
  have hH := has_nil
  have hR' := hR.make (C := 1036) (pos := [.ref 647]) (kw := [(Str.ofString "target_address", .int t tt), (Str.ofString "source_address", .int o to), (Str.ofString "tx_only", .bool true)])
  k_dflt (refine' enter nInit gInit [.ref x, .ref 647, .none, .none, .int t tt, .int o to, .none, .none, .none, .bool false, .bool true] ?kR ?k1 ?k2 ?k3 ?k4 ?k5 ?kA ?kF ?kK ?k6 ?k7 ?k9 nInit_nd nInit_l nInit_g nInit_d gInit_d ?_ ?c2 ?c3 ?c4 ?c5; (case kR => assumption); (case kA => exact hA); (case kF => exact hf); (case kK => exact hke); (case k1 => k_asm); (case k2 => k_asm); (case k3 => k_asm); (case k4 => k_asm); (case k5 => k_asm); (case k6 => k_is); (case k7 => k_is); (case k9 => (refine' binds_K ?x ?q1 ?qk ?q2 ?q3 ?q4; (case x => k_in); (case q1 => exact rfl); (case qk => k_is); (case q2 => exact rfl); (case q3 => exact rfl); (case q4 => kernel_rfl))); (case c5 => decide); (case c2 => exact rfl); (case c3 => exact rfl); (case c4 => exact rfl); k_whole; intro AA g' L' h' m' tk hm hml hmg hmd hme R' hA' FG' F' N' B' X' T'; (try k_fold))
  simp only [nInit, List.zip_cons_cons, List.zip_nil_right, List.forall_mem_cons, List.not_mem_nil, false_implies, implies_true, and_true] at hm
  simp only [nInit, List.forall_mem_cons, List.not_mem_nil, false_implies, implies_true, and_true] at hml
  simp only [gInit, List.forall_mem_cons, List.not_mem_nil, false_implies, implies_true, and_true] at hmg
  simp only [nInit, List.forall_mem_cons, List.not_mem_nil, false_implies, implies_true, and_true] at hmd
  simp only [gInit, List.forall_mem_cons, List.not_mem_nil, false_implies, implies_true, and_true] at hme
  obtain ⟨hd0, hd1, hd2, hd3, hd4, hd5, hd6, hd7, hd8, hd9, hd10⟩ := hmd
  obtain ⟨he0, he1⟩ := hme
  obtain ⟨hl0, hl1, hl2, hl3, hl4, hl5, hl6, hl7, hl8, hl9, hl10⟩ := hml
  obtain ⟨hg0, hg1⟩ := hmg
  obtain ⟨hm0, hm1, hm2, hm3, hm4, hm5, hm6, hm7, hm8, hm9, hm10⟩ := hm
  clear hR hR' hA hf hke B
  w_top off
  repeat (first | (k_unfold; (try dsimp only)) | walk1 | (dsimp only; walk1) | (leave1; try dsimp only))
  
  refine' na_end hret l1 l2 ?F ?N ?H ?ad
  case F => k_asm
  case N => k_asm
  case H => assumption
  case ad => exact ⟨rfl, rfl, rfl, rfl, ⟨_, rfl⟩, ⟨_, rfl⟩, rfl, rfl, ⟨_, rfl⟩, ⟨_, rfl⟩, ⟨_, rfl⟩, ⟨_, rfl⟩, trivial, trivial, vi_num rfl (num_or (c := 6362) (by decide) (by decide) ht ht' ho ho'), vi_num rfl (num_or (c := 6363) (by decide) (by decide) ht ht' ho ho'), no_of rfl⟩

theorem sM11 (w : World) (a e : Int) (ta te : Tok) (ha : 0 ≤ a) (ha' : a ≤ 2047) (he : 0 ≤ e) (he' : e ≤ 255) :
   NewAddr w [.ref 653] [(Str.ofString "txid", .int a ta), (Str.ofString "address_extension", .int e te), (Str.ofString "tx_only", .bool true)] (fun al => Ad al 653 false true false none none (some e) none none none (some e) 0 none none (some a) (some a)) := by
  unfold NewAddr Ctx
  k_fill
  intro rest p loose mean mg mb A env outer A₀ base h₀ L m s Q E B F X N T hA hf hke hR hret
  walk_at "MY cls"
  rename_i x d h' F' N' l1 l2
  have hxd : x ≠ d := fun e => by subst e; exact Nat.lt_irrefl _ l2
  have hr : ∀ q ∈ rest, q.1 ≠ d := fun q hq => Nat.ne_of_lt (l1 q hq)
  have hH := has_nil
  have hR' := hR.make (C := 1036) (pos := [.ref 653]) (kw := [(Str.ofString "txid", .int a ta), (Str.ofString "address_extension", .int e te), (Str.ofString "tx_only", .bool true)])
  k_dflt (refine' enter nInit gInit [.ref x, .ref 653, .int a ta, .none, .none, .none, .none, .none, .int e te, .bool false, .bool true] ?kR ?k1 ?k2 ?k3 ?k4 ?k5 ?kA ?kF ?kK ?k6 ?k7 ?k9 nInit_nd nInit_l nInit_g nInit_d gInit_d ?_ ?c2 ?c3 ?c4 ?c5; (case kR => assumption); (case kA => exact hA); (case kF => exact hf); (case kK => exact hke); (case k1 => k_asm); (case k2 => k_asm); (case k3 => k_asm); (case k4 => k_asm); (case k5 => k_asm); (case k6 => k_is); (case k7 => k_is); (case k9 => (refine' binds_K ?x ?q1 ?qk ?q2 ?q3 ?q4; (case x => k_in); (case q1 => exact rfl); (case qk => k_is); (case q2 => exact rfl); (case q3 => exact rfl); (case q4 => kernel_rfl))); (case c5 => decide); (case c2 => exact rfl); (case c3 => exact rfl); (case c4 => exact rfl); k_whole; intro AA g' L' h' m' tk hm hml hmg hmd hme R' hA' FG' F' N' B' X' T'; (try k_fold))
  simp only [nInit, List.zip_cons_cons, List.zip_nil_right, List.forall_mem_cons, List.not_mem_nil, false_implies, implies_true, and_true] at hm
  simp only [nInit, List.forall_mem_cons, List.not_mem_nil, false_implies, implies_true, and_true] at hml
  simp only [gInit, List.forall_mem_cons, List.not_mem_nil, false_implies, implies_true, and_true] at hmg
  simp only [nInit, List.forall_mem_cons, List.not_mem_nil, false_implies, implies_true, and_true] at hmd
  simp only [gInit, List.forall_mem_cons, List.not_mem_nil, false_implies, implies_true, and_true] at hme
  obtain ⟨hd0, hd1, hd2, hd3, hd4, hd5, hd6, hd7, hd8, hd9, hd10⟩ := hmd
  obtain ⟨he0, he1⟩ := hme
  obtain ⟨hl0, hl1, hl2, hl3, hl4, hl5, hl6, hl7, hl8, hl9, hl10⟩ := hml
  obtain ⟨hg0, hg1⟩ := hmg
  obtain ⟨hm0, hm1, hm2, hm3, hm4, hm5, hm6, hm7, hm8, hm9, hm10⟩ := hm
  clear hR hR' hA hf hke B
  w_top off
  repeat (first | (k_unfold; (try dsimp only)) | walk1 | (dsimp only; walk1) | (leave1; try dsimp only))
  
  refine' na_end hret l1 l2 ?F ?N ?H ?ad
  case F => k_asm
  case N => k_asm
  case H => assumption
  case ad => exact ⟨rfl, rfl, rfl, rfl, rfl, rfl, ⟨_, rfl⟩, rfl, trivial, trivial, ⟨_, rfl⟩, ⟨_, rfl⟩, trivial, trivial, ⟨_, rfl⟩, ⟨_, rfl⟩, no_of rfl⟩


section
local macro_rules | `(tactic| walk_at "subscriptTail Name Constant ref int") => `(tactic| (k_here; (with_reducible show wpAny _ _ (subscriptTail _ _ (Value.ref _) (Value.int _ _)) _ _ _); (with_unfolding_all refine' item_litK ?k1 ?k2 ?k3 ?k4 ?_ ?k6; (case k1 => is_list); (case k2 => decide); (case k3 => decide); (case k4 => rfl); (case k6 => with_unfolding_all rfl); k_whole)))
local macro_rules | `(tactic| walk_at "subscriptTail Name BinOp ref int") => `(tactic| (k_here; k_dflt (refine' told_item ?k1 ?k2 ?k3 ?k4 ?k5 ?k6 ?_ ?k7 ?k8; (case k1 => assumption); (case k2 => k_asm); (case k3 => k_asm); (case k4 => exact mod_lo (by omega)); (case k5 => exact mod_hi (by omega)); (case k6 => assumption); (case k7 => with_unfolding_all rfl); (case k8 => intro _; with_unfolding_all rfl); k_whole); intro tv'))
local macro_rules | `(tactic| walk_at "call builtin:len") => `(tactic| (k_here; k_dflt (refine' told_len ?k1 ?k2 ?k3 ?k4 ?_; (case k1 => assumption); (case k2 => k_asm); (case k3 => k_asm); (case k4 => assumption); k_whole); intro tv' tk'))
local macro_rules | `(tactic| walk_at "binaryOp Pow int int") => `(tactic| (refine pow_int_small (div_lo (by omega) (by omega)) (div_hi (by omega) (by omega) (by omega)) (by decide) ?_))
local macro_rules | `(tactic| walk_at "binaryOp Mod int int") => `(tactic| (with_reducible refine mod_int' (by omega) ?_))
local macro_rules | `(tactic| walk_at "binaryOp FloorDiv int int") => `(tactic| (first | with_reducible refine floordiv_int (by omega) ?_ | refine floordiv_int (seven_ne _) ?_ (Or.inl (PyProof.noPylong_of_log2 (seven_log (div_log (by omega) (by omega) (by omega)))))))
theorem draws (w : World) (rest : Led) (told lat : Addr) (xs : List Int) (n : Nat) (hx0 : 0 < xs.length) (hx : xs.length ≤ 63) (hr : ∀ q ∈ rest, q.1 ≠ lat) : Draws w rest told lat xs n := by
  unfold Draws
  k_fill
  intro p loose mean mg mb A env outer A₀ base h₀ L m s Q E j k below tk tb B F X N T hA hf hke hR hT hk hk' hb hb' hret
  have hx0' : (0 : Int) < xs.length := by omega
  refine wpAny_call ?_
  k_dflt (refine' ent1178 ?kR ?k1 ?k2 ?k3 ?k4 ?k5 ?kA ?kF ?kK ?_; (case kR => assumption); (case kA => exact hA); (case kF => exact hf); (case kK => exact hke); (case k1 => k_asm); (case k2 => k_asm); (case k3 => k_asm); (case k4 => k_asm); (case k5 => k_asm); k_whole; intro AA g' L' h' m' tk hq0 hq1 hq2 hq3 hq4 hq5 hq6 hq7 hq8 hq9 hq10 hq11 hq12 R' hA' FG' F' N' B' X' T'; (try k_fold))
  have hT' := hT.stay FG'
  clear hR hA hf hke B hT
  w_top off
  repeat (first | (k_unfold; (try dsimp only)) | walk1 | (dsimp only; walk1) | (leave1; try dsimp only))
  refine' hret _ _ _ _ _ ?a ?b ?F ?N
  case a => exact mod_lo hb
  case b => exact mod_hi hb
  case F => k_asm
  case N => k_asm


end
section
local macro_rules | `(tactic| walk_at "eval Call Attribute nil nil") => `(tactic| (k_here; (with_reducible show wpAny _ _ (eval (Expr.Call (Expr.Attribute _ _ _) [] [] _) _) _ _ _); refine' offE0 ?kO ?ks ?k1 ?k2 ?k3 ?k5 ?k4 ?kA ?kF ?kK ?kR ?kev ?_ ?kd; k_dflt ((case k2 => k_asm); (case k3 => k_asm); (case k5 => k_asm); (case kev => first | (refine' evName ?e1 ?e2 ?e3 ?e4 ?e5; (case e1 => k_asm); (case e2 => first | with_reducible assumption | (repeat' (first | with_reducible exact up_eq | with_reducible refine up_k (by kernel_rfl) ?_ | with_reducible assumption))); (case e3 => exact rfl); (case e4 => first | with_reducible assumption | kernel_rfl); (case e5 => first | with_reducible assumption | kernel_rfl)) | (refine' evA ?e1 ?e2 ?e3 ?e4 ?e5 ?e6 ?e7 ?e8 ?e9 ?e10 ?e11; (case e1 => k_asm); (case e2 => k_asm); (case e3 => k_asm); (case e9 => first | with_reducible assumption | (repeat' (first | with_reducible exact up_eq | with_reducible refine up_k (by kernel_rfl) ?_ | with_reducible assumption))); (case e4 => k_mem); (case e5 => k_mem); (case e6 => with_reducible constructor); (case e7 => first | with_reducible exact HasA.tx (by with_reducible assumption) | with_reducible exact HasA.rx (by with_reducible assumption)); (case e8 => exact rfl); (case e10 => exact rfl); (case e11 => first | with_reducible assumption | kernel_rfl))); (case kO => first | with_reducible assumption | with_reducible exact TxOf.get (by with_reducible assumption) | with_reducible exact TxOf.pfx (by with_reducible assumption) | with_reducible exact TxOf.w29 (by with_reducible assumption) | with_reducible exact TxOf.req (by with_reducible assumption) | with_reducible exact TxOf.ext (by with_reducible assumption) | with_reducible exact RxOf.get (by with_reducible assumption) | with_reducible exact RxOf.psz (by with_reducible assumption) | with_reducible exact RxOf.w29 (by with_reducible assumption) | with_reducible exact RxOf.req (by with_reducible assumption) | with_reducible exact RxOf.ext (by with_reducible assumption)); (case ks => first | with_reducible assumption | exact fun _ h => h | (intro q hq; repeat (first | with_reducible_and_instances assumption | refine List.Mem.tail _ ?_))); (case k1 => k_asm); (case k4 => k_asm); (case kA => first | with_reducible assumption | exact Around.frames_deeper (Below.stack (by with_reducible assumption)) | exact rfl); (case kF => first | with_reducible assumption | exact rfl); (case kK => first | with_reducible assumption | exact rfl); (case kR => assumption); (case kd => exact rfl); k_whole); intro v' h' tk' hp' F' N'; (first | (k_dflt (obtain ⟨t', hv'⟩ := hp'; subst hv')) | (k_dflt (replace hp' : v' = _ := hp'; subst hp')) | skip); k_sweep))
local macro_rules | `(tactic| walk_at "eval Call Attribute cons nil") => `(tactic| (k_here; (with_reducible show wpAny _ _ (eval (Expr.Call (Expr.Attribute _ (Str.ofString "get_tx_arbitration_id") _) [Expr.Attribute (Expr.Name (Str.ofString "TargetAddressType") _) _ _] [] _) _) _ _ _); refine' offE1e ?kO ?kn ?ks ?k1 ?k2 ?k3 ?k5 ?k4 ?kA ?kF ?kK ?kR ?kev ?_ ?kk ?kx ?ky ?kd; k_dflt ((case k2 => k_asm); (case k3 => k_asm); (case k5 => k_asm); (case kev => first | (refine' evName ?e1 ?e2 ?e3 ?e4 ?e5; (case e1 => k_asm); (case e2 => first | with_reducible assumption | (repeat' (first | with_reducible exact up_eq | with_reducible refine up_k (by kernel_rfl) ?_ | with_reducible assumption))); (case e3 => exact rfl); (case e4 => first | with_reducible assumption | kernel_rfl); (case e5 => first | with_reducible assumption | kernel_rfl)) | (refine' evA ?e1 ?e2 ?e3 ?e4 ?e5 ?e6 ?e7 ?e8 ?e9 ?e10 ?e11; (case e1 => k_asm); (case e2 => k_asm); (case e3 => k_asm); (case e9 => first | with_reducible assumption | (repeat' (first | with_reducible exact up_eq | with_reducible refine up_k (by kernel_rfl) ?_ | with_reducible assumption))); (case e4 => k_mem); (case e5 => k_mem); (case e6 => with_reducible constructor); (case e7 => first | with_reducible exact HasA.tx (by with_reducible assumption) | with_reducible exact HasA.rx (by with_reducible assumption)); (case e8 => exact rfl); (case e10 => exact rfl); (case e11 => first | with_reducible assumption | kernel_rfl))); (case kn => with_reducible constructor); (case kO => first | with_reducible assumption | with_reducible exact TxOf.getF (by with_reducible assumption)); (case ks => first | with_reducible assumption | exact fun _ h => h | (intro q hq; repeat (first | with_reducible_and_instances assumption | refine List.Mem.tail _ ?_))); (case k1 => k_asm); (case k4 => k_asm); (case kA => first | with_reducible assumption | exact Around.frames_deeper (Below.stack (by with_reducible assumption)) | exact rfl); (case kF => first | with_reducible assumption | exact rfl); (case kK => first | with_reducible assumption | exact rfl); (case kR => assumption); (case kk => exact rfl); (case kx => first | with_reducible assumption | kernel_rfl); (case ky => first | with_reducible assumption | kernel_rfl); (case kd => exact rfl); k_whole); intro v' h' tk' hp' F' N'; (first | (k_dflt (obtain ⟨t', hv'⟩ := hp'; subst hv')) | (k_dflt (replace hp' : v' = _ := hp'; subst hp')) | skip); k_sweep))
local macro_rules | `(tactic| walk_at "eval Call Attribute cons nil") => `(tactic| (k_here; (with_reducible show wpAny _ _ (eval (Expr.Call (Expr.Attribute _ (Str.ofString "get_rx_arbitration_id") _) [Expr.Attribute (Expr.Name (Str.ofString "TargetAddressType") _) _ _] [] _) _) _ _ _); refine' offE1e ?kO ?kn ?ks ?k1 ?k2 ?k3 ?k5 ?k4 ?kA ?kF ?kK ?kR ?kev ?_ ?kk ?kx ?ky ?kd; k_dflt ((case k2 => k_asm); (case k3 => k_asm); (case k5 => k_asm); (case kev => first | (refine' evName ?e1 ?e2 ?e3 ?e4 ?e5; (case e1 => k_asm); (case e2 => first | with_reducible assumption | (repeat' (first | with_reducible exact up_eq | with_reducible refine up_k (by kernel_rfl) ?_ | with_reducible assumption))); (case e3 => exact rfl); (case e4 => first | with_reducible assumption | kernel_rfl); (case e5 => first | with_reducible assumption | kernel_rfl)) | (refine' evA ?e1 ?e2 ?e3 ?e4 ?e5 ?e6 ?e7 ?e8 ?e9 ?e10 ?e11; (case e1 => k_asm); (case e2 => k_asm); (case e3 => k_asm); (case e9 => first | with_reducible assumption | (repeat' (first | with_reducible exact up_eq | with_reducible refine up_k (by kernel_rfl) ?_ | with_reducible assumption))); (case e4 => k_mem); (case e5 => k_mem); (case e6 => with_reducible constructor); (case e7 => first | with_reducible exact HasA.tx (by with_reducible assumption) | with_reducible exact HasA.rx (by with_reducible assumption)); (case e8 => exact rfl); (case e10 => exact rfl); (case e11 => first | with_reducible assumption | kernel_rfl))); (case kn => with_reducible constructor); (case kO => first | with_reducible assumption | with_reducible exact RxOf.getF (by with_reducible assumption)); (case ks => first | with_reducible assumption | exact fun _ h => h | (intro q hq; repeat (first | with_reducible_and_instances assumption | refine List.Mem.tail _ ?_))); (case k1 => k_asm); (case k4 => k_asm); (case kA => first | with_reducible assumption | exact Around.frames_deeper (Below.stack (by with_reducible assumption)) | exact rfl); (case kF => first | with_reducible assumption | exact rfl); (case kK => first | with_reducible assumption | exact rfl); (case kR => assumption); (case kk => exact rfl); (case kx => first | with_reducible assumption | kernel_rfl); (case ky => first | with_reducible assumption | kernel_rfl); (case kd => exact rfl); k_whole); intro v' h' tk' hp' F' N'; (first | (k_dflt (obtain ⟨t', hv'⟩ := hp'; subst hv')) | (k_dflt (replace hp' : v' = _ := hp'; subst hp')) | skip); k_sweep))
local macro_rules | `(tactic| walk_at "eval Call Attribute cons nil") => `(tactic| (k_here; (with_reducible show wpAny _ _ (eval (Expr.Call (Expr.Attribute _ (Str.ofString "get_tx_arbitration_id") _) [Expr.Name _ _] [] _) _) _ _ _); refine' offE1 ?kO ?ks ?k1 ?k2 ?k3 ?k5 ?k4 ?kA ?kF ?kK ?kR ?kev ?kz ?_ ?kk ?kx ?ky ?kd; k_dflt ((case k2 => k_asm); (case k3 => k_asm); (case k5 => k_asm); (case kev => first | (refine' evName ?e1 ?e2 ?e3 ?e4 ?e5; (case e1 => k_asm); (case e2 => first | with_reducible assumption | (repeat' (first | with_reducible exact up_eq | with_reducible refine up_k (by kernel_rfl) ?_ | with_reducible assumption))); (case e3 => exact rfl); (case e4 => first | with_reducible assumption | kernel_rfl); (case e5 => first | with_reducible assumption | kernel_rfl)) | (refine' evA ?e1 ?e2 ?e3 ?e4 ?e5 ?e6 ?e7 ?e8 ?e9 ?e10 ?e11; (case e1 => k_asm); (case e2 => k_asm); (case e3 => k_asm); (case e9 => first | with_reducible assumption | (repeat' (first | with_reducible exact up_eq | with_reducible refine up_k (by kernel_rfl) ?_ | with_reducible assumption))); (case e4 => k_mem); (case e5 => k_mem); (case e6 => with_reducible constructor); (case e7 => first | with_reducible exact HasA.tx (by with_reducible assumption) | with_reducible exact HasA.rx (by with_reducible assumption)); (case e8 => exact rfl); (case e10 => exact rfl); (case e11 => first | with_reducible assumption | kernel_rfl))); (case kz => first | with_reducible assumption | (repeat' (first | with_reducible exact up_eq | with_reducible refine up_k (by kernel_rfl) ?_ | with_reducible assumption))); (case kO => first | with_reducible assumption); (case ks => first | with_reducible assumption | exact fun _ h => h | (intro q hq; repeat (first | with_reducible_and_instances assumption | refine List.Mem.tail _ ?_))); (case k1 => k_asm); (case k4 => k_asm); (case kA => first | with_reducible assumption | exact Around.frames_deeper (Below.stack (by with_reducible assumption)) | exact rfl); (case kF => first | with_reducible assumption | exact rfl); (case kK => first | with_reducible assumption | exact rfl); (case kR => assumption); (case kk => exact rfl); (case kx => first | with_reducible assumption | kernel_rfl); (case ky => first | with_reducible assumption | kernel_rfl); (case kd => exact rfl); k_whole); intro v' h' tk' hp' F' N'; (first | (k_dflt (obtain ⟨t', hv'⟩ := hp'; subst hv')) | (k_dflt (replace hp' : v' = _ := hp'; subst hp')) | skip); k_sweep))
local macro_rules | `(tactic| walk_at "eval Call Attribute cons nil") => `(tactic| (k_here; (with_reducible show wpAny _ _ (eval (Expr.Call (Expr.Attribute _ (Str.ofString "get_rx_arbitration_id") _) [Expr.Name _ _] [] _) _) _ _ _); refine' offE1 ?kO ?ks ?k1 ?k2 ?k3 ?k5 ?k4 ?kA ?kF ?kK ?kR ?kev ?kz ?_ ?kk ?kx ?ky ?kd; k_dflt ((case k2 => k_asm); (case k3 => k_asm); (case k5 => k_asm); (case kev => first | (refine' evName ?e1 ?e2 ?e3 ?e4 ?e5; (case e1 => k_asm); (case e2 => first | with_reducible assumption | (repeat' (first | with_reducible exact up_eq | with_reducible refine up_k (by kernel_rfl) ?_ | with_reducible assumption))); (case e3 => exact rfl); (case e4 => first | with_reducible assumption | kernel_rfl); (case e5 => first | with_reducible assumption | kernel_rfl)) | (refine' evA ?e1 ?e2 ?e3 ?e4 ?e5 ?e6 ?e7 ?e8 ?e9 ?e10 ?e11; (case e1 => k_asm); (case e2 => k_asm); (case e3 => k_asm); (case e9 => first | with_reducible assumption | (repeat' (first | with_reducible exact up_eq | with_reducible refine up_k (by kernel_rfl) ?_ | with_reducible assumption))); (case e4 => k_mem); (case e5 => k_mem); (case e6 => with_reducible constructor); (case e7 => first | with_reducible exact HasA.tx (by with_reducible assumption) | with_reducible exact HasA.rx (by with_reducible assumption)); (case e8 => exact rfl); (case e10 => exact rfl); (case e11 => first | with_reducible assumption | kernel_rfl))); (case kz => first | with_reducible assumption | (repeat' (first | with_reducible exact up_eq | with_reducible refine up_k (by kernel_rfl) ?_ | with_reducible assumption))); (case kO => first | with_reducible assumption); (case ks => first | with_reducible assumption | exact fun _ h => h | (intro q hq; repeat (first | with_reducible_and_instances assumption | refine List.Mem.tail _ ?_))); (case k1 => k_asm); (case k4 => k_asm); (case kA => first | with_reducible assumption | exact Around.frames_deeper (Below.stack (by with_reducible assumption)) | exact rfl); (case kF => first | with_reducible assumption | exact rfl); (case kK => first | with_reducible assumption | exact rfl); (case kR => assumption); (case kk => exact rfl); (case kx => first | with_reducible assumption | kernel_rfl); (case ky => first | with_reducible assumption | kernel_rfl); (case kd => exact rfl); k_whole); intro v' h' tk' hp' F' N'; (first | (k_dflt (obtain ⟨t', hv'⟩ := hp'; subst hv')) | (k_dflt (replace hp' : v' = _ := hp'; subst hp')) | skip); k_sweep))
local macro_rules | `(tactic| walk_at "eval Call Attribute cons nil") => `(tactic| (k_here; (with_reducible show wpAny _ _ (eval (Expr.Call (Expr.Attribute _ (Str.ofString "is_for_me") _) [Expr.Name _ _] [] _) _) _ _ _); refine' offE1 ?kO ?ks ?k1 ?k2 ?k3 ?k5 ?k4 ?kA ?kF ?kK ?kR ?kev ?kz ?_ ?kk ?kx ?ky ?kd; k_dflt ((case k2 => k_asm); (case k3 => k_asm); (case k5 => k_asm); (case kev => first | (refine' evName ?e1 ?e2 ?e3 ?e4 ?e5; (case e1 => k_asm); (case e2 => first | with_reducible assumption | (repeat' (first | with_reducible exact up_eq | with_reducible refine up_k (by kernel_rfl) ?_ | with_reducible assumption))); (case e3 => exact rfl); (case e4 => first | with_reducible assumption | kernel_rfl); (case e5 => first | with_reducible assumption | kernel_rfl)) | (refine' evA ?e1 ?e2 ?e3 ?e4 ?e5 ?e6 ?e7 ?e8 ?e9 ?e10 ?e11; (case e1 => k_asm); (case e2 => k_asm); (case e3 => k_asm); (case e9 => first | with_reducible assumption | (repeat' (first | with_reducible exact up_eq | with_reducible refine up_k (by kernel_rfl) ?_ | with_reducible assumption))); (case e4 => k_mem); (case e5 => k_mem); (case e6 => with_reducible constructor); (case e7 => first | with_reducible exact HasA.tx (by with_reducible assumption) | with_reducible exact HasA.rx (by with_reducible assumption)); (case e8 => exact rfl); (case e10 => exact rfl); (case e11 => first | with_reducible assumption | kernel_rfl))); (case kz => first | with_reducible assumption | (repeat' (first | with_reducible exact up_eq | with_reducible refine up_k (by kernel_rfl) ?_ | with_reducible assumption))); (case kO => first | with_reducible assumption | exact RxOf.me (by with_reducible assumption) _ _ _ _ _ _ _ (by assumption) (by assumption) (by assumption)); (case ks => first | with_reducible assumption | exact sub2 (by k_mem) (by k_mem) (by first | with_reducible assumption | exact fun _ h => h | (intro q hq; repeat (first | with_reducible_and_instances assumption | refine List.Mem.tail _ ?_)))); (case k1 => k_asm); (case k4 => k_asm); (case kA => first | with_reducible assumption | exact Around.frames_deeper (Below.stack (by with_reducible assumption)) | exact rfl); (case kF => first | with_reducible assumption | exact rfl); (case kK => first | with_reducible assumption | exact rfl); (case kR => assumption); (case kk => exact rfl); (case kx => first | with_reducible assumption | kernel_rfl); (case ky => first | with_reducible assumption | kernel_rfl); (case kd => exact rfl); k_whole); intro v' h' tk' hp' F' N'; (first | (k_dflt (obtain ⟨t', hv'⟩ := hp'; subst hv')) | (k_dflt (replace hp' : v' = _ := hp'; subst hp')) | skip); k_sweep))

theorem a_txExt (w : World) {rest : Led} {x d xs xr : Addr} {es : List DictEntry} {n k : Nat} {P : Value → Prop} (H1 : (x, instObj 1141 d) ∈ rest) (H2 : (d, dictOf es n) ∈ rest) (H : HasA es xs xr) (O : Off w rest k xs (Str.ofString "get_tx_extension_byte") [] P) : Off w rest (k + 1) x (Str.ofString "get_tx_extension_byte") [] P := by
  refine ⟨1059, (At.txExt.own w).2.2.2, fun prog A h₀ L m led s pl Q E F X N hr hq => method_inst F X (InstAt.of_news N (hr _ H1) (hr _ H2)) (At.txExt.own w).1 (At.txExt.own w).2.1 (At.txExt.own w).2.2.1 (H.no _ _ .txExt) hq, ?_⟩
  unfold Called
  k_fill
  intro p loose mean mg mb A env outer A₀ base h₀ L m s Q E j led B F X N hr T hA hf hke hR hret
  have h1 := hr _ H1
  have h2 := hr _ H2
  refine wpAny_call ?_
  k_dflt (refine' ent1059 ?kR ?k1 ?k2 ?k3 ?k4 ?k5 ?kA ?kF ?kK ?_; (case kR => exact hR); (case kA => exact hA); (case kF => exact hf); (case kK => exact hke); (case k1 => k_asm); (case k2 => k_asm); (case k3 => k_asm); (case k4 => k_asm); (case k5 => k_asm); k_whole; intro AA g' L' h' m' tk hq0 hq1 hq2 R' hA' FG' F' N' B' X' T'; (try k_fold))
  clear hR hA hf hke B
  w_top off
  repeat' (first | (k_unfold; (try dsimp only)) | walk1 | (dsimp only; walk1) | (leave1; try dsimp only))
  exact hret _ _ _ (by assumption) (by k_asm) (by k_asm)

theorem a_rxExt (w : World) {rest : Led} {x d xs xr : Addr} {es : List DictEntry} {n k : Nat} {P : Value → Prop} (H1 : (x, instObj 1141 d) ∈ rest) (H2 : (d, dictOf es n) ∈ rest) (H : HasA es xs xr) (O : Off w rest k xr (Str.ofString "get_rx_extension_byte") [] P) : Off w rest (k + 1) x (Str.ofString "get_rx_extension_byte") [] P := by
  refine ⟨1066, (At.rxExt.own w).2.2.2, fun prog A h₀ L m led s pl Q E F X N hr hq => method_inst F X (InstAt.of_news N (hr _ H1) (hr _ H2)) (At.rxExt.own w).1 (At.rxExt.own w).2.1 (At.rxExt.own w).2.2.1 (H.no _ _ .rxExt) hq, ?_⟩
  unfold Called
  k_fill
  intro p loose mean mg mb A env outer A₀ base h₀ L m s Q E j led B F X N hr T hA hf hke hR hret
  have h1 := hr _ H1
  have h2 := hr _ H2
  refine wpAny_call ?_
  k_dflt (refine' ent1066 ?kR ?k1 ?k2 ?k3 ?k4 ?k5 ?kA ?kF ?kK ?_; (case kR => exact hR); (case kA => exact hA); (case kF => exact hf); (case kK => exact hke); (case k1 => k_asm); (case k2 => k_asm); (case k3 => k_asm); (case k4 => k_asm); (case k5 => k_asm); k_whole; intro AA g' L' h' m' tk hq0 hq1 hq2 R' hA' FG' F' N' B' X' T'; (try k_fold))
  clear hR hA hf hke B
  w_top off
  repeat' (first | (k_unfold; (try dsimp only)) | walk1 | (dsimp only; walk1) | (leave1; try dsimp only))
  exact hret _ _ _ (by assumption) (by k_asm) (by k_asm)

theorem a_me (w : World) {rest : Led} {x d xs xr : Addr} {es : List DictEntry} {n k : Nat} {u : Value} (hu : handedIn u = true) {P : Value → Prop} (H1 : (x, instObj 1141 d) ∈ rest) (H2 : (d, dictOf es n) ∈ rest) (H : HasA es xs xr) (O : Off w rest k xr (Str.ofString "is_for_me") [u] P) : Off w rest (k + 1) x (Str.ofString "is_for_me") [u] P := by
  refine ⟨1073, (At.me.own w).2.2.2, fun prog A h₀ L m led s pl Q E F X N hr hq => method_inst F X (InstAt.of_news N (hr _ H1) (hr _ H2)) (At.me.own w).1 (At.me.own w).2.1 (At.me.own w).2.2.1 (H.no _ _ .me) hq, ?_⟩
  unfold Called
  k_fill
  intro p loose mean mg mb A env outer A₀ base h₀ L m s Q E j led B F X N hr T hA hf hke hR hret
  have h1 := hr _ H1
  have h2 := hr _ H2
  refine wpAny_call ?_
  k_dflt (refine' ent1073 ?kR ?k1 ?k2 ?k3 ?k4 ?k5 ?kA ?kF ?kK ?_; (case kR => exact hR); (case kA => exact hA); (case kF => exact hf); (case kK => exact hke); (case k1 => k_asm); (case k2 => k_asm); (case k3 => k_asm); (case k4 => k_asm); (case k5 => k_asm); k_whole; intro AA g' L' h' m' tk hq0 hq1 hq2 hq3 hq4 hq5 R' hA' FG' F' N' B' X' T'; (try k_fold))
  clear hR hA hf hke B
  w_top off
  repeat' (first | (k_unfold; (try dsimp only)) | walk1 | (dsimp only; walk1) | (leave1; try dsimp only))
  exact hret _ _ _ (by assumption) (by k_asm) (by k_asm)

theorem a_getTx0 (w : World) {rest : Led} {x d xs xr : Addr} {es : List DictEntry} {n k : Nat} {P : Value → Prop} (H1 : (x, instObj 1141 d) ∈ rest) (H2 : (d, dictOf es n) ∈ rest) (H : HasA es xs xr) (O : Off w rest k xs (Str.ofString "get_tx_arbitration_id") [.ref 727] P) : Off w rest (k + 1) x (Str.ofString "get_tx_arbitration_id") [] P := by
  refine ⟨1081, (At.getTx.own w).2.2.2, fun prog A h₀ L m led s pl Q E F X N hr hq => method_inst F X (InstAt.of_news N (hr _ H1) (hr _ H2)) (At.getTx.own w).1 (At.getTx.own w).2.1 (At.getTx.own w).2.2.1 (H.no _ _ .getTx) hq, ?_⟩
  unfold Called
  k_fill
  intro p loose mean mg mb A env outer A₀ base h₀ L m s Q E j led B F X N hr T hA hf hke hR hret
  have h1 := hr _ H1
  have h2 := hr _ H2
  refine wpAny_call ?_
  k_dflt (refine' ent1081d ?kR ?k1 ?k2 ?k3 ?k4 ?k5 ?kA ?kF ?kK ?_; (case kR => exact hR); (case kA => exact hA); (case kF => exact hf); (case kK => exact hke); (case k1 => k_asm); (case k2 => k_asm); (case k3 => k_asm); (case k4 => k_asm); (case k5 => k_asm); k_whole; intro AA g' L' h' m' tk hq0 hq1 hq2 hq3 hq4 hq5 R' hA' FG' F' N' B' X' T'; (try k_fold))
  clear hR hA hf hke B
  w_top off
  repeat' (first | (k_unfold; (try dsimp only)) | walk1 | (dsimp only; walk1) | (leave1; try dsimp only))
  exact hret _ _ _ (by assumption) (by k_asm) (by k_asm)

theorem a_getTx (w : World) {rest : Led} {x d xs xr : Addr} {es : List DictEntry} {n k : Nat} {u : Value} (hu : handedIn u = true) {P : Value → Prop} (H1 : (x, instObj 1141 d) ∈ rest) (H2 : (d, dictOf es n) ∈ rest) (H : HasA es xs xr) (O : Off w rest k xs (Str.ofString "get_tx_arbitration_id") [u] P) : Off w rest (k + 1) x (Str.ofString "get_tx_arbitration_id") [u] P := by
  refine ⟨1081, (At.getTx.own w).2.2.2, fun prog A h₀ L m led s pl Q E F X N hr hq => method_inst F X (InstAt.of_news N (hr _ H1) (hr _ H2)) (At.getTx.own w).1 (At.getTx.own w).2.1 (At.getTx.own w).2.2.1 (H.no _ _ .getTx) hq, ?_⟩
  unfold Called
  k_fill
  intro p loose mean mg mb A env outer A₀ base h₀ L m s Q E j led B F X N hr T hA hf hke hR hret
  have h1 := hr _ H1
  have h2 := hr _ H2
  refine wpAny_call ?_
  k_dflt (refine' ent1081 ?kR ?k1 ?k2 ?k3 ?k4 ?k5 ?kA ?kF ?kK ?_; (case kR => exact hR); (case kA => exact hA); (case kF => exact hf); (case kK => exact hke); (case k1 => k_asm); (case k2 => k_asm); (case k3 => k_asm); (case k4 => k_asm); (case k5 => k_asm); k_whole; intro AA g' L' h' m' tk hq0 hq1 hq2 hq3 hq4 hq5 R' hA' FG' F' N' B' X' T'; (try k_fold))
  clear hR hA hf hke B
  w_top off
  repeat' (first | (k_unfold; (try dsimp only)) | walk1 | (dsimp only; walk1) | (leave1; try dsimp only))
  exact hret _ _ _ (by assumption) (by k_asm) (by k_asm)

theorem a_getRx0 (w : World) {rest : Led} {x d xs xr : Addr} {es : List DictEntry} {n k : Nat} {P : Value → Prop} (H1 : (x, instObj 1141 d) ∈ rest) (H2 : (d, dictOf es n) ∈ rest) (H : HasA es xs xr) (O : Off w rest k xr (Str.ofString "get_rx_arbitration_id") [.ref 727] P) : Off w rest (k + 1) x (Str.ofString "get_rx_arbitration_id") [] P := by
  refine ⟨1089, (At.getRx.own w).2.2.2, fun prog A h₀ L m led s pl Q E F X N hr hq => method_inst F X (InstAt.of_news N (hr _ H1) (hr _ H2)) (At.getRx.own w).1 (At.getRx.own w).2.1 (At.getRx.own w).2.2.1 (H.no _ _ .getRx) hq, ?_⟩
  unfold Called
  k_fill
  intro p loose mean mg mb A env outer A₀ base h₀ L m s Q E j led B F X N hr T hA hf hke hR hret
  have h1 := hr _ H1
  have h2 := hr _ H2
  refine wpAny_call ?_
  k_dflt (refine' ent1089d ?kR ?k1 ?k2 ?k3 ?k4 ?k5 ?kA ?kF ?kK ?_; (case kR => exact hR); (case kA => exact hA); (case kF => exact hf); (case kK => exact hke); (case k1 => k_asm); (case k2 => k_asm); (case k3 => k_asm); (case k4 => k_asm); (case k5 => k_asm); k_whole; intro AA g' L' h' m' tk hq0 hq1 hq2 hq3 hq4 hq5 R' hA' FG' F' N' B' X' T'; (try k_fold))
  clear hR hA hf hke B
  w_top off
  repeat' (first | (k_unfold; (try dsimp only)) | walk1 | (dsimp only; walk1) | (leave1; try dsimp only))
  exact hret _ _ _ (by assumption) (by k_asm) (by k_asm)

theorem a_getRx (w : World) {rest : Led} {x d xs xr : Addr} {es : List DictEntry} {n k : Nat} {u : Value} (hu : handedIn u = true) {P : Value → Prop} (H1 : (x, instObj 1141 d) ∈ rest) (H2 : (d, dictOf es n) ∈ rest) (H : HasA es xs xr) (O : Off w rest k xr (Str.ofString "get_rx_arbitration_id") [u] P) : Off w rest (k + 1) x (Str.ofString "get_rx_arbitration_id") [u] P := by
  refine ⟨1089, (At.getRx.own w).2.2.2, fun prog A h₀ L m led s pl Q E F X N hr hq => method_inst F X (InstAt.of_news N (hr _ H1) (hr _ H2)) (At.getRx.own w).1 (At.getRx.own w).2.1 (At.getRx.own w).2.2.1 (H.no _ _ .getRx) hq, ?_⟩
  unfold Called
  k_fill
  intro p loose mean mg mb A env outer A₀ base h₀ L m s Q E j led B F X N hr T hA hf hke hR hret
  have h1 := hr _ H1
  have h2 := hr _ H2
  refine wpAny_call ?_
  k_dflt (refine' ent1089 ?kR ?k1 ?k2 ?k3 ?k4 ?k5 ?kA ?kF ?kK ?_; (case kR => exact hR); (case kA => exact hA); (case kF => exact hf); (case kK => exact hke); (case k1 => k_asm); (case k2 => k_asm); (case k3 => k_asm); (case k4 => k_asm); (case k5 => k_asm); k_whole; intro AA g' L' h' m' tk hq0 hq1 hq2 hq3 hq4 hq5 R' hA' FG' F' N' B' X' T'; (try k_fold))
  clear hR hA hf hke B
  w_top off
  repeat' (first | (k_unfold; (try dsimp only)) | walk1 | (dsimp only; walk1) | (leave1; try dsimp only))
  exact hret _ _ _ (by assumption) (by k_asm) (by k_asm)

theorem a_tx29 (w : World) {rest : Led} {x d xs xr : Addr} {es : List DictEntry} {n k : Nat} {P : Value → Prop} (H1 : (x, instObj 1141 d) ∈ rest) (H2 : (d, dictOf es n) ∈ rest) (H : HasA es xs xr) (O : Off w rest k xs (Str.ofString "is_tx_29bits") [] P) : Off w rest (k + 1) x (Str.ofString "is_tx_29bits") [] P := by
  refine ⟨1096, (At.tx29.own w).2.2.2, fun prog A h₀ L m led s pl Q E F X N hr hq => method_inst F X (InstAt.of_news N (hr _ H1) (hr _ H2)) (At.tx29.own w).1 (At.tx29.own w).2.1 (At.tx29.own w).2.2.1 (H.no _ _ .tx29) hq, ?_⟩
  unfold Called
  k_fill
  intro p loose mean mg mb A env outer A₀ base h₀ L m s Q E j led B F X N hr T hA hf hke hR hret
  have h1 := hr _ H1
  have h2 := hr _ H2
  refine wpAny_call ?_
  k_dflt (refine' ent1096 ?kR ?k1 ?k2 ?k3 ?k4 ?k5 ?kA ?kF ?kK ?_; (case kR => exact hR); (case kA => exact hA); (case kF => exact hf); (case kK => exact hke); (case k1 => k_asm); (case k2 => k_asm); (case k3 => k_asm); (case k4 => k_asm); (case k5 => k_asm); k_whole; intro AA g' L' h' m' tk hq0 hq1 hq2 R' hA' FG' F' N' B' X' T'; (try k_fold))
  clear hR hA hf hke B
  w_top off
  repeat' (first | (k_unfold; (try dsimp only)) | walk1 | (dsimp only; walk1) | (leave1; try dsimp only))
  exact hret _ _ _ (by assumption) (by k_asm) (by k_asm)

theorem a_rx29 (w : World) {rest : Led} {x d xs xr : Addr} {es : List DictEntry} {n k : Nat} {P : Value → Prop} (H1 : (x, instObj 1141 d) ∈ rest) (H2 : (d, dictOf es n) ∈ rest) (H : HasA es xs xr) (O : Off w rest k xr (Str.ofString "is_rx_29bits") [] P) : Off w rest (k + 1) x (Str.ofString "is_rx_29bits") [] P := by
  refine ⟨1103, (At.rx29.own w).2.2.2, fun prog A h₀ L m led s pl Q E F X N hr hq => method_inst F X (InstAt.of_news N (hr _ H1) (hr _ H2)) (At.rx29.own w).1 (At.rx29.own w).2.1 (At.rx29.own w).2.2.1 (H.no _ _ .rx29) hq, ?_⟩
  unfold Called
  k_fill
  intro p loose mean mg mb A env outer A₀ base h₀ L m s Q E j led B F X N hr T hA hf hke hR hret
  have h1 := hr _ H1
  have h2 := hr _ H2
  refine wpAny_call ?_
  k_dflt (refine' ent1103 ?kR ?k1 ?k2 ?k3 ?k4 ?k5 ?kA ?kF ?kK ?_; (case kR => exact hR); (case kA => exact hA); (case kF => exact hf); (case kK => exact hke); (case k1 => k_asm); (case k2 => k_asm); (case k3 => k_asm); (case k4 => k_asm); (case k5 => k_asm); k_whole; intro AA g' L' h' m' tk hq0 hq1 hq2 R' hA' FG' F' N' B' X' T'; (try k_fold))
  clear hR hA hf hke B
  w_top off
  repeat' (first | (k_unfold; (try dsimp only)) | walk1 | (dsimp only; walk1) | (leave1; try dsimp only))
  exact hret _ _ _ (by assumption) (by k_asm) (by k_asm)

theorem a_reqTx (w : World) {rest : Led} {x d xs xr : Addr} {es : List DictEntry} {n k : Nat} {P : Value → Prop} (H1 : (x, instObj 1141 d) ∈ rest) (H2 : (d, dictOf es n) ∈ rest) (H : HasA es xs xr) (O : Off w rest k xs (Str.ofString "requires_tx_extension_byte") [] P) : Off w rest (k + 1) x (Str.ofString "requires_tx_extension_byte") [] P := by
  refine ⟨1110, (At.reqTx.own w).2.2.2, fun prog A h₀ L m led s pl Q E F X N hr hq => method_inst F X (InstAt.of_news N (hr _ H1) (hr _ H2)) (At.reqTx.own w).1 (At.reqTx.own w).2.1 (At.reqTx.own w).2.2.1 (H.no _ _ .reqTx) hq, ?_⟩
  unfold Called
  k_fill
  intro p loose mean mg mb A env outer A₀ base h₀ L m s Q E j led B F X N hr T hA hf hke hR hret
  have h1 := hr _ H1
  have h2 := hr _ H2
  refine wpAny_call ?_
  k_dflt (refine' ent1110 ?kR ?k1 ?k2 ?k3 ?k4 ?k5 ?kA ?kF ?kK ?_; (case kR => exact hR); (case kA => exact hA); (case kF => exact hf); (case kK => exact hke); (case k1 => k_asm); (case k2 => k_asm); (case k3 => k_asm); (case k4 => k_asm); (case k5 => k_asm); k_whole; intro AA g' L' h' m' tk hq0 hq1 hq2 R' hA' FG' F' N' B' X' T'; (try k_fold))
  clear hR hA hf hke B
  w_top off
  repeat' (first | (k_unfold; (try dsimp only)) | walk1 | (dsimp only; walk1) | (leave1; try dsimp only))
  exact hret _ _ _ (by assumption) (by k_asm) (by k_asm)

theorem a_reqRx (w : World) {rest : Led} {x d xs xr : Addr} {es : List DictEntry} {n k : Nat} {P : Value → Prop} (H1 : (x, instObj 1141 d) ∈ rest) (H2 : (d, dictOf es n) ∈ rest) (H : HasA es xs xr) (O : Off w rest k xr (Str.ofString "requires_rx_extension_byte") [] P) : Off w rest (k + 1) x (Str.ofString "requires_rx_extension_byte") [] P := by
  refine ⟨1117, (At.reqRx.own w).2.2.2, fun prog A h₀ L m led s pl Q E F X N hr hq => method_inst F X (InstAt.of_news N (hr _ H1) (hr _ H2)) (At.reqRx.own w).1 (At.reqRx.own w).2.1 (At.reqRx.own w).2.2.1 (H.no _ _ .reqRx) hq, ?_⟩
  unfold Called
  k_fill
  intro p loose mean mg mb A env outer A₀ base h₀ L m s Q E j led B F X N hr T hA hf hke hR hret
  have h1 := hr _ H1
  have h2 := hr _ H2
  refine wpAny_call ?_
  k_dflt (refine' ent1117 ?kR ?k1 ?k2 ?k3 ?k4 ?k5 ?kA ?kF ?kK ?_; (case kR => exact hR); (case kA => exact hA); (case kF => exact hf); (case kK => exact hke); (case k1 => k_asm); (case k2 => k_asm); (case k3 => k_asm); (case k4 => k_asm); (case k5 => k_asm); k_whole; intro AA g' L' h' m' tk hq0 hq1 hq2 R' hA' FG' F' N' B' X' T'; (try k_fold))
  clear hR hA hf hke B
  w_top off
  repeat' (first | (k_unfold; (try dsimp only)) | walk1 | (dsimp only; walk1) | (leave1; try dsimp only))
  exact hret _ _ _ (by assumption) (by k_asm) (by k_asm)

theorem a_psz (w : World) {rest : Led} {x d xs xr : Addr} {es : List DictEntry} {n k : Nat} {P : Value → Prop} (H1 : (x, instObj 1141 d) ∈ rest) (H2 : (d, dictOf es n) ∈ rest) (H : HasA es xs xr) (O : Off w rest k xr (Str.ofString "get_rx_prefix_size") [] P) : Off w rest (k + 1) x (Str.ofString "get_rx_prefix_size") [] P := by
  refine ⟨1124, (At.psz.own w).2.2.2, fun prog A h₀ L m led s pl Q E F X N hr hq => method_inst F X (InstAt.of_news N (hr _ H1) (hr _ H2)) (At.psz.own w).1 (At.psz.own w).2.1 (At.psz.own w).2.2.1 (H.no _ _ .psz) hq, ?_⟩
  unfold Called
  k_fill
  intro p loose mean mg mb A env outer A₀ base h₀ L m s Q E j led B F X N hr T hA hf hke hR hret
  have h1 := hr _ H1
  have h2 := hr _ H2
  refine wpAny_call ?_
  k_dflt (refine' ent1124 ?kR ?k1 ?k2 ?k3 ?k4 ?k5 ?kA ?kF ?kK ?_; (case kR => exact hR); (case kA => exact hA); (case kF => exact hf); (case kK => exact hke); (case k1 => k_asm); (case k2 => k_asm); (case k3 => k_asm); (case k4 => k_asm); (case k5 => k_asm); k_whole; intro AA g' L' h' m' tk hq0 hq1 hq2 R' hA' FG' F' N' B' X' T'; (try k_fold))
  clear hR hA hf hke B
  w_top off
  repeat' (first | (k_unfold; (try dsimp only)) | walk1 | (dsimp only; walk1) | (leave1; try dsimp only))
  exact hret _ _ _ (by assumption) (by k_asm) (by k_asm)

theorem a_pfx (w : World) {rest : Led} {x d xs xr : Addr} {es : List DictEntry} {n k : Nat} {P : Value → Prop} (H1 : (x, instObj 1141 d) ∈ rest) (H2 : (d, dictOf es n) ∈ rest) (H : HasA es xs xr) (O : Off w rest k xs (Str.ofString "get_tx_payload_prefix") [] P) : Off w rest (k + 1) x (Str.ofString "get_tx_payload_prefix") [] P := by
  refine ⟨1131, (At.pfx.own w).2.2.2, fun prog A h₀ L m led s pl Q E F X N hr hq => method_inst F X (InstAt.of_news N (hr _ H1) (hr _ H2)) (At.pfx.own w).1 (At.pfx.own w).2.1 (At.pfx.own w).2.2.1 (H.no _ _ .pfx) hq, ?_⟩
  unfold Called
  k_fill
  intro p loose mean mg mb A env outer A₀ base h₀ L m s Q E j led B F X N hr T hA hf hke hR hret
  have h1 := hr _ H1
  have h2 := hr _ H2
  refine wpAny_call ?_
  k_dflt (refine' ent1131 ?kR ?k1 ?k2 ?k3 ?k4 ?k5 ?kA ?kF ?kK ?_; (case kR => exact hR); (case kA => exact hA); (case kF => exact hf); (case kK => exact hke); (case k1 => k_asm); (case k2 => k_asm); (case k3 => k_asm); (case k4 => k_asm); (case k5 => k_asm); k_whole; intro AA g' L' h' m' tk hq0 hq1 hq2 R' hA' FG' F' N' B' X' T'; (try k_fold))
  clear hR hA hf hke B
  w_top off
  repeat' (first | (k_unfold; (try dsimp only)) | walk1 | (dsimp only; walk1) | (leave1; try dsimp only))
  exact hret _ _ _ (by assumption) (by k_asm) (by k_asm)

theorem a_part (w : World) {rest : Led} {x d xs xr : Addr} {es : List DictEntry} {n k : Nat} (H1 : (x, instObj 1141 d) ∈ rest) (H2 : (d, dictOf es n) ∈ rest) (H : HasA es xs xr) : Off w rest (k + 1) x (Str.ofString "is_partial_address") [] (fun v => v = .bool false) := by
  refine ⟨1138, (At.part.own w).2.2.2, fun prog A h₀ L m led s pl Q E F X N hr hq => method_inst F X (InstAt.of_news N (hr _ H1) (hr _ H2)) (At.part.own w).1 (At.part.own w).2.1 (At.part.own w).2.2.1 (H.no _ _ .part) hq, ?_⟩
  unfold Called
  k_fill
  intro p loose mean mg mb A env outer A₀ base h₀ L m s Q E j led B F X N hr T hA hf hke hR hret
  refine wpAny_call ?_
  k_dflt (refine' ent1138 ?kR ?k1 ?k2 ?k3 ?k4 ?k5 ?kA ?kF ?kK ?_; (case kR => exact hR); (case kA => exact hA); (case kF => exact hf); (case kK => exact hke); (case k1 => k_asm); (case k2 => k_asm); (case k3 => k_asm); (case k4 => k_asm); (case k5 => k_asm); k_whole; intro AA g' L' h' m' tk hq0 hq1 hq2 R' hA' FG' F' N' B' X' T'; (try k_fold))
  clear hR hA hf hke B
  w_top off
  repeat' (first | (k_unfold; (try dsimp only)) | walk1 | (dsimp only; walk1) | (leave1; try dsimp only))
  exact hret _ _ _ rfl (by k_asm) (by k_asm)


theorem newAsym (w : World) (rest : Led) (xs xr : Addr) (Is : Inst 1036 rest xs) (Ir : Inst 1036 rest xr) (Os : Off w rest 5 xs (Str.ofString "is_tx_only") [] (fun v => v = .bool true)) (Or : Off w rest 5 xr (Str.ofString "is_rx_only") [] (fun v => v = .bool true)) : NewAsym w rest xs xr := by
  unfold NewAsym Ctx
  k_fill
  intro p loose mean mg mb A env outer A₀ base h₀ L m s Q E B F X N T hA hf hke hR hret
  obtain ⟨ds, es, ns, hs1, hs2⟩ := Is
  obtain ⟨dr, er, nr, hr1, hr2⟩ := Ir
  walk_at "MY cls"
  rename_i x d h' F' N' l1 l2
  have hxd : x ≠ d := fun e => by subst e; exact Nat.lt_irrefl _ l2
  have hr : ∀ q ∈ rest, q.1 ≠ d := fun q hq => Nat.ne_of_lt (l1 q hq)
  have hR' := hR.make (C := 1141) (pos := [.ref xs, .ref xr]) (kw := [])
  k_dflt (refine' ent1052 ?kR ?k1 ?k2 ?k3 ?k4 ?k5 ?kA ?kF ?kK ?_; (case kR => exact hR'); (case kA => exact hA); (case kF => exact hf); (case kK => exact hke); (case k1 => k_asm); (case k2 => k_asm); (case k3 => k_asm); (case k4 => k_asm); (case k5 => k_asm); k_whole; intro AA g' L' h' m' tk hq0 hq1 hq2 hq3 hq4 hq5 hq6 hq7 hq8 hq9 hq10 hq11 hq12 R' hA' FG' F' N' B' X' T'; (try k_fold))
  clear hR hR' hA hf hke B
  w_top off
  repeat' (first | (k_unfold; (try dsimp only)) | walk1 | (dsimp only; walk1) | (leave1; try dsimp only))
  refine' asym_end hret l1 l2 ?F ?N ?H
  case F => k_asm
  case N => k_asm
  case H => exact ⟨by kernel_rfl, by kernel_rfl, fun y f h => by cases h <;> kernel_rfl⟩

section
variable {w : World} {rest : Led} {x d : Addr} {es : List DictEntry} {n : Nat} {al : List (Nat × Value)}
theorem le45 : 4 ≤ 5 := by decide

theorem tx_N11 {M1 M2 : Bool} {fu ph rf rp rxid sa ta xt : Option Int} {psz n1 n2 : Int} (h1 : (x, instObj 1036 d) ∈ rest) (h2 : (d, dictOf es n) ∈ rest) (H : Has es al) (a : Ad al 643 M1 M2 false ta sa xt rxid ph fu none psz rp rf (some n1) (some n2)) : TxOf w rest 5 x false n1 n2 none := by
  obtain ⟨t1, e1⟩ := (a.tp : ∃ t, al.lookup 15 = some (.int n1 t))
  obtain ⟨t2, e2⟩ := (a.tf : ∃ t, al.lookup 16 = some (.int n2 t))
  obtain ⟨tb, eb⟩ := a.pfx
  refine ⟨((Off.of_meth h1 h2 H .m27 a.no rfl (m_getTx w al _ e1 rfl a.no)).weak (fun _ h => ⟨_, h⟩)).more (fun _ h => h) le45,
    ((Off.of_meth h1 h2 H .m27 a.no rfl (m_getTxP w al _ e1 rfl a.no)).weak (fun _ h => ⟨_, h⟩)).more (fun _ h => h) le45,
    ((Off.of_meth h1 h2 H .m27 a.no rfl (m_getTxF w al _ e2 rfl a.no)).weak (fun _ h => ⟨_, h⟩)).more (fun _ h => h) le45,
    ((Off.of_meth h1 h2 H .m25 a.no rfl (m_pfx w al _ eb rfl a.no)).weak (fun _ h => ⟨_, h⟩)).more (fun _ h => h) le45,
    ((Off.of_meth h1 h2 H .m41 a.no rfl (m_tx29 w al _ a.w rfl a.no)).weak (fun _ h => h)).more (fun _ h => h) le45,
    ((Off.of_meth h1 h2 H .m38 a.no rfl (m_reqTx_N11 w al a.m a.no)).weak (fun _ h => h)).more (fun _ h => h) le45,
    ((Off.of_meth h1 h2 H .m39 a.no rfl (m_txExt_N11 w al a.m a.no)).weak (fun _ h => h)).more (fun _ h => h) le45⟩

theorem rx_N11 {M1 : Bool} {ta sa xt ph fu pfx tp tf : Option Int} {n1 : Int} (h1 : (x, instObj 1036 d) ∈ rest) (h2 : (d, dictOf es n) ∈ rest) (H : Has es al) (a : Ad al 643 M1 false false ta sa xt (some n1) ph fu pfx 0 (some n1) (some n1) tp tf) : RxOf w rest 5 x false n1 n1 none := by
  obtain ⟨t1, e1⟩ := (a.rp : ∃ t, al.lookup 13 = some (.int _ t))
  obtain ⟨t2, e2⟩ := (a.rf : ∃ t, al.lookup 14 = some (.int _ t))
  obtain ⟨tp, ep⟩ := a.psz
  obtain ⟨tr, er⟩ := (a.rxid : ∃ t, al.lookup 7 = some (.int n1 t))
  refine ⟨((Off.of_meth h1 h2 H .m28 a.no rfl (m_getRx w al _ e1 rfl a.no)).weak (fun _ h => ⟨_, h⟩)).more (fun _ h => h) le45,
    ((Off.of_meth h1 h2 H .m28 a.no rfl (m_getRxP w al _ e1 rfl a.no)).weak (fun _ h => ⟨_, h⟩)).more (fun _ h => h) le45,
    ((Off.of_meth h1 h2 H .m28 a.no rfl (m_getRxF w al _ e2 rfl a.no)).weak (fun _ h => ⟨_, h⟩)).more (fun _ h => h) le45,
    ((Off.of_meth h1 h2 H .m24 a.no rfl (m_psz w al _ ep rfl a.no)).weak (fun _ h => ⟨_, h⟩)).more (fun _ h => h) le45,
    ((Off.of_meth h1 h2 H .m42 a.no rfl (m_rx29 w al _ a.w rfl a.no)).weak (fun _ h => h)).more (fun _ h => h) le45,
    ((Off.of_meth h1 h2 H .m37 a.no rfl (m_reqRx_N11 w al a.m a.no)).weak (fun _ h => h)).more (fun _ h => h) le45,
    ((Off.of_meth h1 h2 H .m40 a.no rfl (m_rxExt_N11 w al a.m a.no)).weak (fun _ h => h)).more (fun _ h => h) le45,
    Off.of_for h1 h2 H a.no (f_N11 w al n1 tr a.tx a.m a.w er a.no)⟩

theorem tx_N29 {M1 M2 : Bool} {fu ph rf rp rxid sa ta xt : Option Int} {psz n1 n2 : Int} (h1 : (x, instObj 1036 d) ∈ rest) (h2 : (d, dictOf es n) ∈ rest) (H : Has es al) (a : Ad al 645 M1 M2 true ta sa xt rxid ph fu none psz rp rf (some n1) (some n2)) : TxOf w rest 5 x true n1 n2 none := by
  obtain ⟨t1, e1⟩ := (a.tp : ∃ t, al.lookup 15 = some (.int n1 t))
  obtain ⟨t2, e2⟩ := (a.tf : ∃ t, al.lookup 16 = some (.int n2 t))
  obtain ⟨tb, eb⟩ := a.pfx
  refine ⟨((Off.of_meth h1 h2 H .m27 a.no rfl (m_getTx w al _ e1 rfl a.no)).weak (fun _ h => ⟨_, h⟩)).more (fun _ h => h) le45,
    ((Off.of_meth h1 h2 H .m27 a.no rfl (m_getTxP w al _ e1 rfl a.no)).weak (fun _ h => ⟨_, h⟩)).more (fun _ h => h) le45,
    ((Off.of_meth h1 h2 H .m27 a.no rfl (m_getTxF w al _ e2 rfl a.no)).weak (fun _ h => ⟨_, h⟩)).more (fun _ h => h) le45,
    ((Off.of_meth h1 h2 H .m25 a.no rfl (m_pfx w al _ eb rfl a.no)).weak (fun _ h => ⟨_, h⟩)).more (fun _ h => h) le45,
    ((Off.of_meth h1 h2 H .m41 a.no rfl (m_tx29 w al _ a.w rfl a.no)).weak (fun _ h => h)).more (fun _ h => h) le45,
    ((Off.of_meth h1 h2 H .m38 a.no rfl (m_reqTx_N29 w al a.m a.no)).weak (fun _ h => h)).more (fun _ h => h) le45,
    ((Off.of_meth h1 h2 H .m39 a.no rfl (m_txExt_N29 w al a.m a.no)).weak (fun _ h => h)).more (fun _ h => h) le45⟩

theorem rx_N29 {M1 : Bool} {ta sa xt ph fu pfx tp tf : Option Int} {n1 : Int} (h1 : (x, instObj 1036 d) ∈ rest) (h2 : (d, dictOf es n) ∈ rest) (H : Has es al) (a : Ad al 645 M1 false true ta sa xt (some n1) ph fu pfx 0 (some n1) (some n1) tp tf) : RxOf w rest 5 x true n1 n1 none := by
  obtain ⟨t1, e1⟩ := (a.rp : ∃ t, al.lookup 13 = some (.int _ t))
  obtain ⟨t2, e2⟩ := (a.rf : ∃ t, al.lookup 14 = some (.int _ t))
  obtain ⟨tp, ep⟩ := a.psz
  obtain ⟨tr, er⟩ := (a.rxid : ∃ t, al.lookup 7 = some (.int n1 t))
  refine ⟨((Off.of_meth h1 h2 H .m28 a.no rfl (m_getRx w al _ e1 rfl a.no)).weak (fun _ h => ⟨_, h⟩)).more (fun _ h => h) le45,
    ((Off.of_meth h1 h2 H .m28 a.no rfl (m_getRxP w al _ e1 rfl a.no)).weak (fun _ h => ⟨_, h⟩)).more (fun _ h => h) le45,
    ((Off.of_meth h1 h2 H .m28 a.no rfl (m_getRxF w al _ e2 rfl a.no)).weak (fun _ h => ⟨_, h⟩)).more (fun _ h => h) le45,
    ((Off.of_meth h1 h2 H .m24 a.no rfl (m_psz w al _ ep rfl a.no)).weak (fun _ h => ⟨_, h⟩)).more (fun _ h => h) le45,
    ((Off.of_meth h1 h2 H .m42 a.no rfl (m_rx29 w al _ a.w rfl a.no)).weak (fun _ h => h)).more (fun _ h => h) le45,
    ((Off.of_meth h1 h2 H .m37 a.no rfl (m_reqRx_N29 w al a.m a.no)).weak (fun _ h => h)).more (fun _ h => h) le45,
    ((Off.of_meth h1 h2 H .m40 a.no rfl (m_rxExt_N29 w al a.m a.no)).weak (fun _ h => h)).more (fun _ h => h) le45,
    Off.of_for h1 h2 H a.no (f_N29 w al n1 tr a.tx a.m a.w er a.no)⟩

theorem tx_NF29 {M1 M2 : Bool} {fu ph rf rp rxid sa ta xt : Option Int} {psz n1 n2 : Int} (h1 : (x, instObj 1036 d) ∈ rest) (h2 : (d, dictOf es n) ∈ rest) (H : Has es al) (a : Ad al 647 M1 M2 true ta sa xt rxid ph fu none psz rp rf (some n1) (some n2)) : TxOf w rest 5 x true n1 n2 none := by
  obtain ⟨t1, e1⟩ := (a.tp : ∃ t, al.lookup 15 = some (.int n1 t))
  obtain ⟨t2, e2⟩ := (a.tf : ∃ t, al.lookup 16 = some (.int n2 t))
  obtain ⟨tb, eb⟩ := a.pfx
  refine ⟨((Off.of_meth h1 h2 H .m27 a.no rfl (m_getTx w al _ e1 rfl a.no)).weak (fun _ h => ⟨_, h⟩)).more (fun _ h => h) le45,
    ((Off.of_meth h1 h2 H .m27 a.no rfl (m_getTxP w al _ e1 rfl a.no)).weak (fun _ h => ⟨_, h⟩)).more (fun _ h => h) le45,
    ((Off.of_meth h1 h2 H .m27 a.no rfl (m_getTxF w al _ e2 rfl a.no)).weak (fun _ h => ⟨_, h⟩)).more (fun _ h => h) le45,
    ((Off.of_meth h1 h2 H .m25 a.no rfl (m_pfx w al _ eb rfl a.no)).weak (fun _ h => ⟨_, h⟩)).more (fun _ h => h) le45,
    ((Off.of_meth h1 h2 H .m41 a.no rfl (m_tx29 w al _ a.w rfl a.no)).weak (fun _ h => h)).more (fun _ h => h) le45,
    ((Off.of_meth h1 h2 H .m38 a.no rfl (m_reqTx_NF29 w al a.m a.no)).weak (fun _ h => h)).more (fun _ h => h) le45,
    ((Off.of_meth h1 h2 H .m39 a.no rfl (m_txExt_NF29 w al a.m a.no)).weak (fun _ h => h)).more (fun _ h => h) le45⟩

theorem rx_NF29 {M1 : Bool} {xt rxid pfx tp tf : Option Int} {c so : Int} (hc : 0 ≤ c) (hc' : c ≤ 255) (ho : 0 ≤ so) (ho' : so ≤ 255) (h1 : (x, instObj 1036 d) ∈ rest) (h2 : (d, dictOf es n) ∈ rest) (H : Has es al) (a : Ad al 647 M1 false true (some c) (some so) xt rxid (some 416940032) (some 417005568) pfx 0 (some (416940032 + 256 * so + c)) (some (417005568 + 256 * so + c)) tp tf) : RxOf w rest 5 x true (416940032 + 256 * so + c) (417005568 + 256 * so + c) none := by
  obtain ⟨t1, e1⟩ := (a.rp : ∃ t, al.lookup 13 = some (.int _ t))
  obtain ⟨t2, e2⟩ := (a.rf : ∃ t, al.lookup 14 = some (.int _ t))
  obtain ⟨tp, ep⟩ := a.psz
  obtain ⟨tc, ec⟩ := (a.ta : ∃ t, al.lookup 3 = some (.int c t))
  obtain ⟨to, eo⟩ := (a.sa : ∃ t, al.lookup 4 = some (.int so t))
  obtain ⟨tph, eph⟩ := (a.ph : ∃ t, al.lookup 9 = some (.int 416940032 t))
  obtain ⟨tfu, efu⟩ := (a.fu : ∃ t, al.lookup 10 = some (.int 417005568 t))
  refine ⟨((Off.of_meth h1 h2 H .m28 a.no rfl (m_getRx w al _ e1 rfl a.no)).weak (fun _ h => ⟨_, h⟩)).more (fun _ h => h) le45,
    ((Off.of_meth h1 h2 H .m28 a.no rfl (m_getRxP w al _ e1 rfl a.no)).weak (fun _ h => ⟨_, h⟩)).more (fun _ h => h) le45,
    ((Off.of_meth h1 h2 H .m28 a.no rfl (m_getRxF w al _ e2 rfl a.no)).weak (fun _ h => ⟨_, h⟩)).more (fun _ h => h) le45,
    ((Off.of_meth h1 h2 H .m24 a.no rfl (m_psz w al _ ep rfl a.no)).weak (fun _ h => ⟨_, h⟩)).more (fun _ h => h) le45,
    ((Off.of_meth h1 h2 H .m42 a.no rfl (m_rx29 w al _ a.w rfl a.no)).weak (fun _ h => h)).more (fun _ h => h) le45,
    ((Off.of_meth h1 h2 H .m37 a.no rfl (m_reqRx_NF29 w al a.m a.no)).weak (fun _ h => h)).more (fun _ h => h) le45,
    ((Off.of_meth h1 h2 H .m40 a.no rfl (m_rxExt_NF29 w al a.m a.no)).weak (fun _ h => h)).more (fun _ h => h) le45,
    Off.of_for h1 h2 H a.no (f_NF29 w al c so 416940032 417005568 tc to tph tfu a.tx a.m a.w ec eo eph efu hc hc' ho ho' (by decide) (by decide) a.no)⟩

theorem tx_E11 {M1 M2 : Bool} {fu ph rf rp rxid sa xt : Option Int} {psz n1 n2 : Int} {j : Int} (h1 : (x, instObj 1036 d) ∈ rest) (h2 : (d, dictOf es n) ∈ rest) (H : Has es al) (a : Ad al 649 M1 M2 false (some j) sa xt rxid ph fu (some j) psz rp rf (some n1) (some n2)) : TxOf w rest 5 x false n1 n2 (some j) := by
  obtain ⟨t1, e1⟩ := (a.tp : ∃ t, al.lookup 15 = some (.int n1 t))
  obtain ⟨t2, e2⟩ := (a.tf : ∃ t, al.lookup 16 = some (.int n2 t))
  obtain ⟨tb, eb⟩ := a.pfx
  obtain ⟨te, ee⟩ := (a.ta : ∃ t, al.lookup 3 = some (.int j t))
  refine ⟨((Off.of_meth h1 h2 H .m27 a.no rfl (m_getTx w al _ e1 rfl a.no)).weak (fun _ h => ⟨_, h⟩)).more (fun _ h => h) le45,
    ((Off.of_meth h1 h2 H .m27 a.no rfl (m_getTxP w al _ e1 rfl a.no)).weak (fun _ h => ⟨_, h⟩)).more (fun _ h => h) le45,
    ((Off.of_meth h1 h2 H .m27 a.no rfl (m_getTxF w al _ e2 rfl a.no)).weak (fun _ h => ⟨_, h⟩)).more (fun _ h => h) le45,
    ((Off.of_meth h1 h2 H .m25 a.no rfl (m_pfx w al _ eb rfl a.no)).weak (fun _ h => ⟨_, h⟩)).more (fun _ h => h) le45,
    ((Off.of_meth h1 h2 H .m41 a.no rfl (m_tx29 w al _ a.w rfl a.no)).weak (fun _ h => h)).more (fun _ h => h) le45,
    ((Off.of_meth h1 h2 H .m38 a.no rfl (m_reqTx_E11 w al a.m a.no)).weak (fun _ h => h)).more (fun _ h => h) le45,
    ((Off.of_meth h1 h2 H .m39 a.no rfl (m_txExt_E11 w al _ a.m ee rfl a.no)).weak (fun _ h => ⟨_, h⟩)).more (fun _ h => h) le45⟩

theorem rx_E11 {M1 : Bool} {ta xt ph fu pfx tp tf : Option Int} {n1 : Int} {j : Int} (h1 : (x, instObj 1036 d) ∈ rest) (h2 : (d, dictOf es n) ∈ rest) (H : Has es al) (a : Ad al 649 M1 false false ta (some j) xt (some n1) ph fu pfx 1 (some n1) (some n1) tp tf) : RxOf w rest 5 x false n1 n1 (some j) := by
  obtain ⟨t1, e1⟩ := (a.rp : ∃ t, al.lookup 13 = some (.int _ t))
  obtain ⟨t2, e2⟩ := (a.rf : ∃ t, al.lookup 14 = some (.int _ t))
  obtain ⟨tp, ep⟩ := a.psz
  obtain ⟨te, ee⟩ := (a.sa : ∃ t, al.lookup 4 = some (.int j t))
  obtain ⟨tr, er⟩ := (a.rxid : ∃ t, al.lookup 7 = some (.int n1 t))
  refine ⟨((Off.of_meth h1 h2 H .m28 a.no rfl (m_getRx w al _ e1 rfl a.no)).weak (fun _ h => ⟨_, h⟩)).more (fun _ h => h) le45,
    ((Off.of_meth h1 h2 H .m28 a.no rfl (m_getRxP w al _ e1 rfl a.no)).weak (fun _ h => ⟨_, h⟩)).more (fun _ h => h) le45,
    ((Off.of_meth h1 h2 H .m28 a.no rfl (m_getRxF w al _ e2 rfl a.no)).weak (fun _ h => ⟨_, h⟩)).more (fun _ h => h) le45,
    ((Off.of_meth h1 h2 H .m24 a.no rfl (m_psz w al _ ep rfl a.no)).weak (fun _ h => ⟨_, h⟩)).more (fun _ h => h) le45,
    ((Off.of_meth h1 h2 H .m42 a.no rfl (m_rx29 w al _ a.w rfl a.no)).weak (fun _ h => h)).more (fun _ h => h) le45,
    ((Off.of_meth h1 h2 H .m37 a.no rfl (m_reqRx_E11 w al a.m a.no)).weak (fun _ h => h)).more (fun _ h => h) le45,
    ((Off.of_meth h1 h2 H .m40 a.no rfl (m_rxExt_E11 w al _ a.m ee rfl a.no)).weak (fun _ h => ⟨_, h⟩)).more (fun _ h => h) le45,
    Off.of_for h1 h2 H a.no (f_E11 w al n1 j tr te a.tx a.m a.w er ee a.no)⟩

theorem tx_E29 {M1 M2 : Bool} {fu ph rf rp rxid sa xt : Option Int} {psz n1 n2 : Int} {j : Int} (h1 : (x, instObj 1036 d) ∈ rest) (h2 : (d, dictOf es n) ∈ rest) (H : Has es al) (a : Ad al 651 M1 M2 true (some j) sa xt rxid ph fu (some j) psz rp rf (some n1) (some n2)) : TxOf w rest 5 x true n1 n2 (some j) := by
  obtain ⟨t1, e1⟩ := (a.tp : ∃ t, al.lookup 15 = some (.int n1 t))
  obtain ⟨t2, e2⟩ := (a.tf : ∃ t, al.lookup 16 = some (.int n2 t))
  obtain ⟨tb, eb⟩ := a.pfx
  obtain ⟨te, ee⟩ := (a.ta : ∃ t, al.lookup 3 = some (.int j t))
  refine ⟨((Off.of_meth h1 h2 H .m27 a.no rfl (m_getTx w al _ e1 rfl a.no)).weak (fun _ h => ⟨_, h⟩)).more (fun _ h => h) le45,
    ((Off.of_meth h1 h2 H .m27 a.no rfl (m_getTxP w al _ e1 rfl a.no)).weak (fun _ h => ⟨_, h⟩)).more (fun _ h => h) le45,
    ((Off.of_meth h1 h2 H .m27 a.no rfl (m_getTxF w al _ e2 rfl a.no)).weak (fun _ h => ⟨_, h⟩)).more (fun _ h => h) le45,
    ((Off.of_meth h1 h2 H .m25 a.no rfl (m_pfx w al _ eb rfl a.no)).weak (fun _ h => ⟨_, h⟩)).more (fun _ h => h) le45,
    ((Off.of_meth h1 h2 H .m41 a.no rfl (m_tx29 w al _ a.w rfl a.no)).weak (fun _ h => h)).more (fun _ h => h) le45,
    ((Off.of_meth h1 h2 H .m38 a.no rfl (m_reqTx_E29 w al a.m a.no)).weak (fun _ h => h)).more (fun _ h => h) le45,
    ((Off.of_meth h1 h2 H .m39 a.no rfl (m_txExt_E29 w al _ a.m ee rfl a.no)).weak (fun _ h => ⟨_, h⟩)).more (fun _ h => h) le45⟩

theorem rx_E29 {M1 : Bool} {ta xt ph fu pfx tp tf : Option Int} {n1 : Int} {j : Int} (h1 : (x, instObj 1036 d) ∈ rest) (h2 : (d, dictOf es n) ∈ rest) (H : Has es al) (a : Ad al 651 M1 false true ta (some j) xt (some n1) ph fu pfx 1 (some n1) (some n1) tp tf) : RxOf w rest 5 x true n1 n1 (some j) := by
  obtain ⟨t1, e1⟩ := (a.rp : ∃ t, al.lookup 13 = some (.int _ t))
  obtain ⟨t2, e2⟩ := (a.rf : ∃ t, al.lookup 14 = some (.int _ t))
  obtain ⟨tp, ep⟩ := a.psz
  obtain ⟨te, ee⟩ := (a.sa : ∃ t, al.lookup 4 = some (.int j t))
  obtain ⟨tr, er⟩ := (a.rxid : ∃ t, al.lookup 7 = some (.int n1 t))
  refine ⟨((Off.of_meth h1 h2 H .m28 a.no rfl (m_getRx w al _ e1 rfl a.no)).weak (fun _ h => ⟨_, h⟩)).more (fun _ h => h) le45,
    ((Off.of_meth h1 h2 H .m28 a.no rfl (m_getRxP w al _ e1 rfl a.no)).weak (fun _ h => ⟨_, h⟩)).more (fun _ h => h) le45,
    ((Off.of_meth h1 h2 H .m28 a.no rfl (m_getRxF w al _ e2 rfl a.no)).weak (fun _ h => ⟨_, h⟩)).more (fun _ h => h) le45,
    ((Off.of_meth h1 h2 H .m24 a.no rfl (m_psz w al _ ep rfl a.no)).weak (fun _ h => ⟨_, h⟩)).more (fun _ h => h) le45,
    ((Off.of_meth h1 h2 H .m42 a.no rfl (m_rx29 w al _ a.w rfl a.no)).weak (fun _ h => h)).more (fun _ h => h) le45,
    ((Off.of_meth h1 h2 H .m37 a.no rfl (m_reqRx_E29 w al a.m a.no)).weak (fun _ h => h)).more (fun _ h => h) le45,
    ((Off.of_meth h1 h2 H .m40 a.no rfl (m_rxExt_E29 w al _ a.m ee rfl a.no)).weak (fun _ h => ⟨_, h⟩)).more (fun _ h => h) le45,
    Off.of_for h1 h2 H a.no (f_E29 w al n1 j tr te a.tx a.m a.w er ee a.no)⟩

theorem tx_M11 {M1 M2 : Bool} {fu ph rf rp rxid sa ta : Option Int} {psz n1 n2 : Int} {j : Int} (h1 : (x, instObj 1036 d) ∈ rest) (h2 : (d, dictOf es n) ∈ rest) (H : Has es al) (a : Ad al 653 M1 M2 false ta sa (some j) rxid ph fu (some j) psz rp rf (some n1) (some n2)) : TxOf w rest 5 x false n1 n2 (some j) := by
  obtain ⟨t1, e1⟩ := (a.tp : ∃ t, al.lookup 15 = some (.int n1 t))
  obtain ⟨t2, e2⟩ := (a.tf : ∃ t, al.lookup 16 = some (.int n2 t))
  obtain ⟨tb, eb⟩ := a.pfx
  obtain ⟨te, ee⟩ := (a.ext : ∃ t, al.lookup 5 = some (.int j t))
  refine ⟨((Off.of_meth h1 h2 H .m27 a.no rfl (m_getTx w al _ e1 rfl a.no)).weak (fun _ h => ⟨_, h⟩)).more (fun _ h => h) le45,
    ((Off.of_meth h1 h2 H .m27 a.no rfl (m_getTxP w al _ e1 rfl a.no)).weak (fun _ h => ⟨_, h⟩)).more (fun _ h => h) le45,
    ((Off.of_meth h1 h2 H .m27 a.no rfl (m_getTxF w al _ e2 rfl a.no)).weak (fun _ h => ⟨_, h⟩)).more (fun _ h => h) le45,
    ((Off.of_meth h1 h2 H .m25 a.no rfl (m_pfx w al _ eb rfl a.no)).weak (fun _ h => ⟨_, h⟩)).more (fun _ h => h) le45,
    ((Off.of_meth h1 h2 H .m41 a.no rfl (m_tx29 w al _ a.w rfl a.no)).weak (fun _ h => h)).more (fun _ h => h) le45,
    ((Off.of_meth h1 h2 H .m38 a.no rfl (m_reqTx_M11 w al a.m a.no)).weak (fun _ h => h)).more (fun _ h => h) le45,
    ((Off.of_meth h1 h2 H .m39 a.no rfl (m_txExt_M11 w al _ a.m ee rfl a.no)).weak (fun _ h => ⟨_, h⟩)).more (fun _ h => h) le45⟩

theorem rx_M11 {M1 : Bool} {ta sa ph fu pfx tp tf : Option Int} {n1 : Int} {j : Int} (h1 : (x, instObj 1036 d) ∈ rest) (h2 : (d, dictOf es n) ∈ rest) (H : Has es al) (a : Ad al 653 M1 false false ta sa (some j) (some n1) ph fu pfx 1 (some n1) (some n1) tp tf) : RxOf w rest 5 x false n1 n1 (some j) := by
  obtain ⟨t1, e1⟩ := (a.rp : ∃ t, al.lookup 13 = some (.int _ t))
  obtain ⟨t2, e2⟩ := (a.rf : ∃ t, al.lookup 14 = some (.int _ t))
  obtain ⟨tp, ep⟩ := a.psz
  obtain ⟨te, ee⟩ := (a.ext : ∃ t, al.lookup 5 = some (.int j t))
  obtain ⟨tr, er⟩ := (a.rxid : ∃ t, al.lookup 7 = some (.int n1 t))
  refine ⟨((Off.of_meth h1 h2 H .m28 a.no rfl (m_getRx w al _ e1 rfl a.no)).weak (fun _ h => ⟨_, h⟩)).more (fun _ h => h) le45,
    ((Off.of_meth h1 h2 H .m28 a.no rfl (m_getRxP w al _ e1 rfl a.no)).weak (fun _ h => ⟨_, h⟩)).more (fun _ h => h) le45,
    ((Off.of_meth h1 h2 H .m28 a.no rfl (m_getRxF w al _ e2 rfl a.no)).weak (fun _ h => ⟨_, h⟩)).more (fun _ h => h) le45,
    ((Off.of_meth h1 h2 H .m24 a.no rfl (m_psz w al _ ep rfl a.no)).weak (fun _ h => ⟨_, h⟩)).more (fun _ h => h) le45,
    ((Off.of_meth h1 h2 H .m42 a.no rfl (m_rx29 w al _ a.w rfl a.no)).weak (fun _ h => h)).more (fun _ h => h) le45,
    ((Off.of_meth h1 h2 H .m37 a.no rfl (m_reqRx_M11 w al a.m a.no)).weak (fun _ h => h)).more (fun _ h => h) le45,
    ((Off.of_meth h1 h2 H .m40 a.no rfl (m_rxExt_M11 w al _ a.m ee rfl a.no)).weak (fun _ h => ⟨_, h⟩)).more (fun _ h => h) le45,
    Off.of_for h1 h2 H a.no (f_M11 w al n1 j tr te a.tx a.m a.w er ee a.no)⟩

theorem tx_M29 {M1 M2 : Bool} {fu ph rf rp rxid sa ta : Option Int} {psz n1 n2 : Int} {j : Int} (h1 : (x, instObj 1036 d) ∈ rest) (h2 : (d, dictOf es n) ∈ rest) (H : Has es al) (a : Ad al 655 M1 M2 true ta sa (some j) rxid ph fu (some j) psz rp rf (some n1) (some n2)) : TxOf w rest 5 x true n1 n2 (some j) := by
  obtain ⟨t1, e1⟩ := (a.tp : ∃ t, al.lookup 15 = some (.int n1 t))
  obtain ⟨t2, e2⟩ := (a.tf : ∃ t, al.lookup 16 = some (.int n2 t))
  obtain ⟨tb, eb⟩ := a.pfx
  obtain ⟨te, ee⟩ := (a.ext : ∃ t, al.lookup 5 = some (.int j t))
  refine ⟨((Off.of_meth h1 h2 H .m27 a.no rfl (m_getTx w al _ e1 rfl a.no)).weak (fun _ h => ⟨_, h⟩)).more (fun _ h => h) le45,
    ((Off.of_meth h1 h2 H .m27 a.no rfl (m_getTxP w al _ e1 rfl a.no)).weak (fun _ h => ⟨_, h⟩)).more (fun _ h => h) le45,
    ((Off.of_meth h1 h2 H .m27 a.no rfl (m_getTxF w al _ e2 rfl a.no)).weak (fun _ h => ⟨_, h⟩)).more (fun _ h => h) le45,
    ((Off.of_meth h1 h2 H .m25 a.no rfl (m_pfx w al _ eb rfl a.no)).weak (fun _ h => ⟨_, h⟩)).more (fun _ h => h) le45,
    ((Off.of_meth h1 h2 H .m41 a.no rfl (m_tx29 w al _ a.w rfl a.no)).weak (fun _ h => h)).more (fun _ h => h) le45,
    ((Off.of_meth h1 h2 H .m38 a.no rfl (m_reqTx_M29 w al a.m a.no)).weak (fun _ h => h)).more (fun _ h => h) le45,
    ((Off.of_meth h1 h2 H .m39 a.no rfl (m_txExt_M29 w al _ a.m ee rfl a.no)).weak (fun _ h => ⟨_, h⟩)).more (fun _ h => h) le45⟩

theorem rx_M29 {M1 : Bool} {rxid pfx tp tf : Option Int} {c so : Int} {j : Int} (hc : 0 ≤ c) (hc' : c ≤ 255) (ho : 0 ≤ so) (ho' : so ≤ 255) (h1 : (x, instObj 1036 d) ∈ rest) (h2 : (d, dictOf es n) ∈ rest) (H : Has es al) (a : Ad al 655 M1 false true (some c) (some so) (some j) rxid (some 416153600) (some 416088064) pfx 1 (some (416153600 + 256 * so + c)) (some (416088064 + 256 * so + c)) tp tf) : RxOf w rest 5 x true (416153600 + 256 * so + c) (416088064 + 256 * so + c) (some j) := by
  obtain ⟨t1, e1⟩ := (a.rp : ∃ t, al.lookup 13 = some (.int _ t))
  obtain ⟨t2, e2⟩ := (a.rf : ∃ t, al.lookup 14 = some (.int _ t))
  obtain ⟨tp, ep⟩ := a.psz
  obtain ⟨te, ee⟩ := (a.ext : ∃ t, al.lookup 5 = some (.int j t))
  obtain ⟨tc, ec⟩ := (a.ta : ∃ t, al.lookup 3 = some (.int c t))
  obtain ⟨to, eo⟩ := (a.sa : ∃ t, al.lookup 4 = some (.int so t))
  obtain ⟨tph, eph⟩ := (a.ph : ∃ t, al.lookup 9 = some (.int 416153600 t))
  obtain ⟨tfu, efu⟩ := (a.fu : ∃ t, al.lookup 10 = some (.int 416088064 t))
  refine ⟨((Off.of_meth h1 h2 H .m28 a.no rfl (m_getRx w al _ e1 rfl a.no)).weak (fun _ h => ⟨_, h⟩)).more (fun _ h => h) le45,
    ((Off.of_meth h1 h2 H .m28 a.no rfl (m_getRxP w al _ e1 rfl a.no)).weak (fun _ h => ⟨_, h⟩)).more (fun _ h => h) le45,
    ((Off.of_meth h1 h2 H .m28 a.no rfl (m_getRxF w al _ e2 rfl a.no)).weak (fun _ h => ⟨_, h⟩)).more (fun _ h => h) le45,
    ((Off.of_meth h1 h2 H .m24 a.no rfl (m_psz w al _ ep rfl a.no)).weak (fun _ h => ⟨_, h⟩)).more (fun _ h => h) le45,
    ((Off.of_meth h1 h2 H .m42 a.no rfl (m_rx29 w al _ a.w rfl a.no)).weak (fun _ h => h)).more (fun _ h => h) le45,
    ((Off.of_meth h1 h2 H .m37 a.no rfl (m_reqRx_M29 w al a.m a.no)).weak (fun _ h => h)).more (fun _ h => h) le45,
    ((Off.of_meth h1 h2 H .m40 a.no rfl (m_rxExt_M29 w al _ a.m ee rfl a.no)).weak (fun _ h => ⟨_, h⟩)).more (fun _ h => h) le45,
    Off.of_for h1 h2 H a.no (f_M29 w al c so 416153600 416088064 j tc to tph tfu te a.tx a.m a.w ec eo eph efu hc hc' ho ho' (by decide) (by decide) ee a.no)⟩

theorem part00 {M : Addr} {w29 : Bool} {ta sa xt rxid ph fu pfx rp rf tp tf : Option Int} {psz : Int} (h1 : (x, instObj 1036 d) ∈ rest) (h2 : (d, dictOf es n) ∈ rest) (H : Has es al) (a : Ad al M false false w29 ta sa xt rxid ph fu pfx psz rp rf tp tf) : Off w rest 5 x (Str.ofString "is_partial_address") [] (fun v => v = .bool false) :=
  ((Off.of_meth h1 h2 H .m21 a.no rfl (m_part00 w al a.rx a.tx a.no)).weak (fun _ h => h)).more (fun _ h => h) le45

theorem part10 {M : Addr} {w29 : Bool} {ta sa xt rxid ph fu pfx rp rf tp tf : Option Int} {psz : Int} (h1 : (x, instObj 1036 d) ∈ rest) (h2 : (d, dictOf es n) ∈ rest) (H : Has es al) (a : Ad al M true false w29 ta sa xt rxid ph fu pfx psz rp rf tp tf) : Off w rest 5 x (Str.ofString "is_partial_address") [] (fun v => v = .bool true) :=
  ((Off.of_meth h1 h2 H .m21 a.no rfl (m_part10 w al a.rx a.tx a.no)).weak (fun _ h => h)).more (fun _ h => h) le45

theorem part01 {M : Addr} {w29 : Bool} {ta sa xt rxid ph fu pfx rp rf tp tf : Option Int} {psz : Int} (h1 : (x, instObj 1036 d) ∈ rest) (h2 : (d, dictOf es n) ∈ rest) (H : Has es al) (a : Ad al M false true w29 ta sa xt rxid ph fu pfx psz rp rf tp tf) : Off w rest 5 x (Str.ofString "is_partial_address") [] (fun v => v = .bool true) :=
  ((Off.of_meth h1 h2 H .m21 a.no rfl (m_part01 w al a.rx a.tx a.no)).weak (fun _ h => h)).more (fun _ h => h) le45

theorem txOnly {M : Addr} {w29 : Bool} {ta sa xt rxid ph fu pfx rp rf tp tf : Option Int} {psz : Int} {rx tx : Bool} (h1 : (x, instObj 1036 d) ∈ rest) (h2 : (d, dictOf es n) ∈ rest) (H : Has es al) (a : Ad al M rx tx w29 ta sa xt rxid ph fu pfx psz rp rf tp tf) : Off w rest 5 x (Str.ofString "is_tx_only") [] (fun v => v = .bool tx) :=
  ((Off.of_meth h1 h2 H .m22 a.no rfl (m_txOnly w al _ a.tx rfl a.no)).weak (fun _ h => h)).more (fun _ h => h) le45
theorem rxOnly {M : Addr} {w29 : Bool} {ta sa xt rxid ph fu pfx rp rf tp tf : Option Int} {psz : Int} {rx tx : Bool} (h1 : (x, instObj 1036 d) ∈ rest) (h2 : (d, dictOf es n) ∈ rest) (H : Has es al) (a : Ad al M rx tx w29 ta sa xt rxid ph fu pfx psz rp rf tp tf) : Off w rest 5 x (Str.ofString "is_rx_only") [] (fun v => v = .bool rx) :=
  ((Off.of_meth h1 h2 H .m23 a.no rfl (m_rxOnly w al _ a.rx rfl a.no)).weak (fun _ h => h)).more (fun _ h => h) le45
end

section
variable {w : World} {A A₀ : Around} {E : Value → Shared → Prop} {hp : Heap} {gs : Array GenState} {dr : Drawn} {tk₀ : Nat} {os : OsState} {h₀ base : Heap} {L x xs xr : Addr} {m mg mb : Str → Option Value} {p : Program} {loose : List Str} {mean : ExcName → Option Value} {env : Env} {outer : List Env} {led rest : Led} {k j n : Nat} {told lat : Addr} {ns : List Int}
theorem drawGo {q below : Int} {tk tb : Tok} {Q : Value → Shared → Prop} (D : Draws w rest told lat ns n) (B : Below A₀ base outer h₀) (F : Fr h₀ L hp m) (X : (KF w.params).In h₀) (N : News h₀ L hp ((lat, listOf #[.int q tk] n) :: rest)) (T : Top p loose mean mg mb h₀) (hA : A.frames = some (env :: outer)) (hf : env.frame = some L) (hke : env.scope.kind = .function) (R : Room A (j + 1))
    (hT : Told h₀ rest told ns) (hq : 0 ≤ q) (hq' : q ≤ 64) (hb : 0 < below) (hb' : below ≤ 256)
    (h : ∀ v t t' h' tk', 0 ≤ v → v < below → Fr h₀ L h' m → News h₀ L h' ((lat, listOf #[.int (q + 1) t'] n) :: rest) → Q (.int v t) ⟨h', gs, dr, tk', os⟩) :
    wpAny (model PySem.Challenge.rw_ff0002_01.row.prog w) A (call (.ref 1178) [.ref told, .ref lat, .int below tb]) Q E ⟨hp, gs, dr, tk₀, os⟩ :=
  D p loose mean mg mb A env outer A₀ base h₀ L m ⟨hp, gs, dr, tk₀, os⟩ Q E j q below tk tb B F X N T hA hf hke R hT hq hq' hb hb' h
theorem addrGo {pos : List Value} {kw : List (Str × Value)} {Fa : List (Nat × Value) → Prop} {Q : Value → Shared → Prop} (C : NewAddr w pos kw Fa) (B : Below A₀ base outer h₀) (F : Fr h₀ L hp m) (X : (KF w.params).In h₀) (N : News h₀ L hp rest) (T : Top p loose mean mg mb h₀) (hA : A.frames = some (env :: outer)) (hf : env.frame = some L) (hke : env.scope.kind = .function) (R : Room A 8)
    (h : ∀ x d es n al h' tk', Fr h₀ L h' m → News h₀ L h' ((x, instObj 1036 d) :: (d, dictOf es n) :: rest) → Has es al → Fa al → d < x → (∀ q ∈ rest, q.1 < d) → Q (.ref x) ⟨h', gs, dr, tk', os⟩) :
    wpAny (model PySem.Challenge.rw_ff0002_01.row.prog w) A (call (.ref 1036) pos kw) Q E ⟨hp, gs, dr, tk₀, os⟩ :=
  C rest p loose mean mg mb A env outer A₀ base h₀ L m ⟨hp, gs, dr, tk₀, os⟩ Q E B F X N T hA hf hke R h
theorem asymGo {Q : Value → Shared → Prop} (C : NewAsym w rest xs xr) (B : Below A₀ base outer h₀) (F : Fr h₀ L hp m) (X : (KF w.params).In h₀) (N : News h₀ L hp rest) (T : Top p loose mean mg mb h₀) (hA : A.frames = some (env :: outer)) (hf : env.frame = some L) (hke : env.scope.kind = .function) (R : Room A 8)
    (h : ∀ x d es n h' tk', Fr h₀ L h' m → News h₀ L h' ((x, instObj 1141 d) :: (d, dictOf es n) :: rest) → HasA es xs xr → d < x → (∀ q ∈ rest, q.1 < d) → Q (.ref x) ⟨h', gs, dr, tk', os⟩) :
    wpAny (model PySem.Challenge.rw_ff0002_01.row.prog w) A (call (.ref 1141) [.ref xs, .ref xr] []) Q E ⟨hp, gs, dr, tk₀, os⟩ :=
  C p loose mean mg mb A env outer A₀ base h₀ L m ⟨hp, gs, dr, tk₀, os⟩ Q E B F X N T hA hf hke R h
theorem msgGo {sent : Int} {t u : Tok} {b : Array UInt8} {wide : Bool} {Q : Value → Shared → Prop} (B : Below A₀ base outer h₀) (F : Fr h₀ L hp m) (X : (KF w.params).In h₀) (N : News h₀ L hp rest) (T : Top p loose mean mg mb h₀) (hA : A.frames = some (env :: outer)) (hf : env.frame = some L) (hke : env.scope.kind = .function) (R : Room A 8)
    (h : ∀ x d h' tk', Fr h₀ L h' m → News h₀ L h' ((x, msgO d (msgS sent t b u wide)) :: (d, dictOf [] 0) :: rest) → d < x → (∀ q ∈ rest, q.1 < d) → Q (.ref x) ⟨h', gs, dr, tk', os⟩) :
    wpAny (model PySem.Challenge.rw_ff0002_01.row.prog w) A (call (.ref 1163) [] [(Str.ofString "arbitration_id", .int sent t), (Str.ofString "data", .bytes b u), (Str.ofString "extended_id", .bool wide)]) Q E ⟨hp, gs, dr, tk₀, os⟩ :=
  newMsg w sent b wide t u rest p loose mean mg mb A env outer A₀ base h₀ L m ⟨hp, gs, dr, tk₀, os⟩ Q E B F X N T hA hf hke R h
/-- the globals of the law's own text -/
inductive Gl : Str → Addr → Prop
  | drawn : Gl (Str.ofString "_law_drawn") 1178
  | pair : Gl (Str.ofString "_law_pair") 1185
  | addr : Gl (Str.ofString "Address") 1036
  | asym : Gl (Str.ofString "AsymmetricAddress") 1141
  | msg : Gl (Str.ofString "CanMessage") 1163
theorem Gl.fact (w : World) {y : Str} {f : Addr} (h : Gl y f) : nsIn (KF w.params) mainGlobals y = some (some (.ref f)) ∧ (y == ("__debug__" : Str)) = false := by
  cases h <;> exact ⟨by kernel_rfl, by decide +kernel⟩
variable {a : Addr} {cn : Str} {cs : Scope} {ccd : Value} {prog : Program}
theorem gl {y : Str} {f : Addr} {p₁ : Pos} {Q : Value → Shared → Prop} (F : Fr h₀ L hp m) (X : (KF w.params).In h₀) (T : Top p loose mean mg mb h₀) (g : Gl y f) (h : Q (.ref f) ⟨hp, gs, dr, tk₀, os⟩)
    (hk : cs.kind = .function) (hx : (envX cn cs L a ccd []).kindOf y = some .globalImplicit) : wpAny (model prog w) A (eval (.Name y p₁) (envOf cn cs L a ccd)) Q E ⟨hp, gs, dr, tk₀, os⟩ :=
  nameX_K (s := ⟨hp, gs, dr, tk₀, os⟩) F X (topRead_of T) (g.fact w).1 h hk hx (g.fact w).2
end
section
variable {M : Model} {A : Around} {E : Value → Shared → Prop} {s : Shared} {env : Env}
theorem asg2 {a b : Str} {pa pb : Pos} {k : Nat} {tpos : Pos} {value : Expr} {pos : Pos} {Q : Flow → Shared → Prop}
    (h : wpAny M A (eval value env) (fun v s₁ => wpAny M A (unpackItems v 2 none) (fun items s₂ => wpAny M A (assignInOrder [bindName env b, bindName env a] items.reverse) (fun _ => Q .next) E s₂) E s₁) E s)
    (hs : swapsWithSole [.Tuple [.Name a pa, .Name b pb] k tpos] value pos.line env = pure false) (hw : swappedStores [.Tuple [.Name a pa, .Name b pb] k tpos] value env = pure (some [a, b])) :
    wpAny M A (exec (.Assign [.Tuple [.Name a pa, .Name b pb] k tpos] value pos) env) Q E s := Assign_Tuple_swapped (names := [a, b]) h hs hw
theorem asg3 {a b c : Str} {pa pb pc : Pos} {k : Nat} {tpos : Pos} {value : Expr} {pos : Pos} {Q : Flow → Shared → Prop}
    (h : wpAny M A (eval value env) (fun v s₁ => wpAny M A (unpackItems v 3 none) (fun items s₂ => wpAny M A (assignInOrder [bindName env c, bindName env b, bindName env a] items.reverse) (fun _ => Q .next) E s₂) E s₁) E s)
    (hs : swapsWithSole [.Tuple [.Name a pa, .Name b pb, .Name c pc] k tpos] value pos.line env = pure false) (hw : swappedStores [.Tuple [.Name a pa, .Name b pb, .Name c pc] k tpos] value env = pure (some [a, b, c])) :
    wpAny M A (exec (.Assign [.Tuple [.Name a pa, .Name b pb, .Name c pc] k tpos] value pos) env) Q E s := Assign_Tuple_swapped (names := [a, b, c]) h hs hw
end

/-! the texts of the law and of its pair, cut into pieces: a piece's tail is a name of its own -/
@[irreducible] def tlP2 : List Stmt := List.drop 2 bd1185
@[reducible] def sgP0 : List Stmt := by
  refine (?f : ∀ b : List Stmt, List.take 2 bd1185 ++ tlP2 = b → List Stmt) _ (by (conv => lhs; simp only [bd1185, List.take_succ_cons, List.take_zero, List.cons_append, List.nil_append]))
  exact fun b _ => b
@[reducible] def sgP2 : List Stmt := by
  refine (?f : ∀ b : List Stmt, List.drop 2 bd1185 = b → List Stmt) _ (by (conv => lhs; simp only [bd1185, List.drop_succ_cons, List.drop_zero]))
  exact fun b _ => b
theorem sgP0_eq : bd1185 = sgP0 := by unfold sgP0 tlP2; rfl
theorem sgP2_eq : tlP2 = sgP2 := by unfold tlP2; rfl
def lst (t : Tok) : Option Int → Array Value
  | none => #[]
  | some j => #[.int j t]
/-- what the kind of addressing makes of width, numbers, octets -/
inductive KindOk : Int → Bool → Int → Int → Int → Option Int → Option Int → Prop
  | k0 {a b : Int} : 0 ≤ a → a ≤ 2047 → 0 ≤ b → b ≤ 2047 → KindOk 0 false a b 0 none none
  | k1 {a b : Int} : 0 ≤ a → a < 536870912 → 0 ≤ b → b < 536870912 → KindOk 1 true a b 0 none none
  | k2 {t o : Int} : 0 ≤ t → t ≤ 249 → 0 ≤ o → o ≤ 249 → KindOk 2 true (416940032 + 256 * t + o) (416940032 + 256 * o + t) 65536 none none
  | k3 {a b t o : Int} : 0 ≤ a → a ≤ 2047 → 0 ≤ b → b ≤ 2047 → 0 ≤ t → t ≤ 249 → 0 ≤ o → o ≤ 249 → KindOk 3 false a b 0 (some t) (some o)
  | k4 {a b t o : Int} : 0 ≤ a → a < 536870912 → 0 ≤ b → b < 536870912 → 0 ≤ t → t ≤ 249 → 0 ≤ o → o ≤ 249 → KindOk 4 true a b 0 (some t) (some o)
  | k5 {a b e : Int} : 0 ≤ a → a ≤ 2047 → 0 ≤ b → b ≤ 2047 → 0 ≤ e → e ≤ 255 → KindOk 5 false a b 0 (some e) (some e)
  | k6 {t o e : Int} : 0 ≤ t → t ≤ 249 → 0 ≤ o → o ≤ 249 → 0 ≤ e → e ≤ 255 → KindOk 6 true (416153600 + 256 * t + o) (416153600 + 256 * o + t) (-65536) (some e) (some e)
theorem news_sub {h₀ h : Heap} {L : Addr} {led want : Led} (N : News h₀ L h led) (hs : ∀ p ∈ want, p ∈ led) : News h₀ L h want := fun p hp => N p (hs p hp)
theorem tx_cast {w : World} {rest : Led} {k : Nat} {x : Addr} {wide : Bool} {n1 n2 n3 : Int} {o : Option Int} (e : n2 = n3) (h : TxOf w rest k x wide n1 n2 o) : TxOf w rest k x wide n1 n3 o := e ▸ h
theorem rx_cast {w : World} {rest : Led} {k : Nat} {x : Addr} {wide : Bool} {n1 n2 n3 : Int} {o : Option Int} (e : n2 = n3) (h : RxOf w rest k x wide n1 n2 o) : RxOf w rest k x wide n1 n3 o := e ▸ h
structure PairRes (w : World) (rest : Led) (wide : Bool) (num ans fur : Int) (o1 o2 : Option Int) (x1 x2 la lb : Addr) : Prop where
  t1 : TxOf w rest 5 x1 wide num (num + fur) o1
  r1 : RxOf w rest 5 x1 wide ans (ans + fur) o2
  t2 : TxOf w rest 5 x2 wide ans (ans + fur) o2
  r2 : RxOf w rest 5 x2 wide num (num + fur) o1
  l1 : ∃ t n, (la, listOf (lst t o1) n) ∈ rest
  l2 : ∃ t n, (lb, listOf (lst t o2) n) ∈ rest
/-- a call of the pair's maker -/
def Pair (w : World) (rest : Led) (told lat : Addr) (ns : List Int) (n : Nat) (kind : Int) : Prop :=
  ∀ (p : Program) (loose : List Str) (mean : ExcName → Option Value) (mg mb : Str → Option Value) (A : Around) (env : Env) (outer : List Env) (A₀ : Around) (base h₀ : Heap) (L : Addr) (m : Str → Option Value) (s : Shared) (Q E : Value → Shared → Prop) (j : Nat) (q : Int) (tk tkd : Tok),
    Below A₀ base outer h₀ → Fr h₀ L s.heap m → (KF w.params).In h₀ → News h₀ L s.heap ((lat, listOf #[.int q tk] n) :: rest) → Top p loose mean mg mb h₀ → A.frames = some (env :: outer) → env.frame = some L → env.scope.kind = .function → Room A (j + 9) →
    Told h₀ rest told ns → 0 ≤ q → q ≤ 50 → (∀ x ∈ rest, x.1 ≠ lat) →
    (∀ (wide : Bool) (num ans fur : Int) (o1 o2 : Option Int) (x1 x2 la lb tup : Addr) (rest' : Led) (t' tn ta : Tok) h' tk', KindOk kind wide num ans fur o1 o2 → PairRes w rest' wide num ans fur o1 o2 x1 x2 la lb → (∀ x ∈ rest, x ∈ rest') → (∀ x ∈ rest', x.1 ≠ lat) → Fr h₀ L h' m →
      News h₀ L h' ((tup, { cls := .type "tuple", data := .seq #[.ref x1, .ref x2, .ref la, .int num tn, .ref lb, .int ans ta, .bool wide] }) :: (lat, listOf #[.int (q + 5) t'] n) :: rest') → Q (.ref tup) { s with heap := h', toks := tk' }) →
    wpAny (model PySem.Challenge.rw_ff0002_01.row.prog w) A (call (.ref 1185) [.int kind tkd, .ref told, .ref lat]) Q E s
theorem wide_ne {a b : Int} (h1 : 50 ≤ b) (h2 : b ≤ 89) : a * 5000000 ≠ b * 2000001 := by
  intro e
  obtain ⟨c, hc⟩ : ∃ c, c = 5 * a - 2 * b := ⟨_, rfl⟩
  have e2 : b = 1000000 * c := by omega
  clear e hc
  omega

/-! the law's text, cut into pieces -/
@[irreducible] def tlL1 : List Stmt := List.drop 1 bd1192
@[irreducible] def tlL3 : List Stmt := List.drop 3 bd1192
@[irreducible] def tlL5 : List Stmt := List.drop 5 bd1192
@[irreducible] def tlL11 : List Stmt := List.drop 11 bd1192
@[irreducible] def tlL13 : List Stmt := List.drop 13 bd1192
@[irreducible] def tlL14 : List Stmt := List.drop 14 bd1192
@[irreducible] def tlL16 : List Stmt := List.drop 16 bd1192
@[irreducible] def tlL17 : List Stmt := List.drop 17 bd1192
@[irreducible] def tlL18 : List Stmt := List.drop 18 bd1192
@[irreducible] def tlL21 : List Stmt := List.drop 21 bd1192
@[irreducible] def tlL22 : List Stmt := List.drop 22 bd1192
@[reducible] def sgL0 : List Stmt := by
  refine (?f : ∀ b : List Stmt, List.take 1 (List.drop 0 bd1192) ++ tlL1 = b → List Stmt) _ (by (conv => lhs; simp only [bd1192, List.drop_succ_cons, List.drop_zero, List.take_succ_cons, List.take_zero, List.cons_append, List.nil_append]))
  exact fun b _ => b
theorem sgL0_eq : bd1192 = sgL0 := by unfold sgL0 tlL1; rfl
@[reducible] def sgL1 : List Stmt := by
  refine (?f : ∀ b : List Stmt, List.take 2 (List.drop 1 bd1192) ++ tlL3 = b → List Stmt) _ (by (conv => lhs; simp only [bd1192, List.drop_succ_cons, List.drop_zero, List.take_succ_cons, List.take_zero, List.cons_append, List.nil_append]))
  exact fun b _ => b
theorem sgL1_eq : tlL1 = sgL1 := by unfold sgL1 tlL1 tlL3; rfl
@[reducible] def sgL3 : List Stmt := by
  refine (?f : ∀ b : List Stmt, List.take 2 (List.drop 3 bd1192) ++ tlL5 = b → List Stmt) _ (by (conv => lhs; simp only [bd1192, List.drop_succ_cons, List.drop_zero, List.take_succ_cons, List.take_zero, List.cons_append, List.nil_append]))
  exact fun b _ => b
theorem sgL3_eq : tlL3 = sgL3 := by unfold sgL3 tlL3 tlL5; rfl
@[reducible] def sgL5 : List Stmt := by
  refine (?f : ∀ b : List Stmt, List.take 6 (List.drop 5 bd1192) ++ tlL11 = b → List Stmt) _ (by (conv => lhs; simp only [bd1192, List.drop_succ_cons, List.drop_zero, List.take_succ_cons, List.take_zero, List.cons_append, List.nil_append]))
  exact fun b _ => b
theorem sgL5_eq : tlL5 = sgL5 := by unfold sgL5 tlL5 tlL11; rfl
@[reducible] def sgL11 : List Stmt := by
  refine (?f : ∀ b : List Stmt, List.take 2 (List.drop 11 bd1192) ++ tlL13 = b → List Stmt) _ (by (conv => lhs; simp only [bd1192, List.drop_succ_cons, List.drop_zero, List.take_succ_cons, List.take_zero, List.cons_append, List.nil_append]))
  exact fun b _ => b
theorem sgL11_eq : tlL11 = sgL11 := by unfold sgL11 tlL11 tlL13; rfl
@[reducible] def sgL13 : List Stmt := by
  refine (?f : ∀ b : List Stmt, List.take 1 (List.drop 13 bd1192) ++ tlL14 = b → List Stmt) _ (by (conv => lhs; simp only [bd1192, List.drop_succ_cons, List.drop_zero, List.take_succ_cons, List.take_zero, List.cons_append, List.nil_append]))
  exact fun b _ => b
theorem sgL13_eq : tlL13 = sgL13 := by unfold sgL13 tlL13 tlL14; rfl
@[reducible] def sgL14 : List Stmt := by
  refine (?f : ∀ b : List Stmt, List.take 2 (List.drop 14 bd1192) ++ tlL16 = b → List Stmt) _ (by (conv => lhs; simp only [bd1192, List.drop_succ_cons, List.drop_zero, List.take_succ_cons, List.take_zero, List.cons_append, List.nil_append]))
  exact fun b _ => b
theorem sgL14_eq : tlL14 = sgL14 := by unfold sgL14 tlL14 tlL16; rfl
@[reducible] def sgL16 : List Stmt := by
  refine (?f : ∀ b : List Stmt, List.take 1 (List.drop 16 bd1192) ++ tlL17 = b → List Stmt) _ (by (conv => lhs; simp only [bd1192, List.drop_succ_cons, List.drop_zero, List.take_succ_cons, List.take_zero, List.cons_append, List.nil_append]))
  exact fun b _ => b
theorem sgL16_eq : tlL16 = sgL16 := by unfold sgL16 tlL16 tlL17; rfl
@[reducible] def sgL17 : List Stmt := by
  refine (?f : ∀ b : List Stmt, List.take 1 (List.drop 17 bd1192) ++ tlL18 = b → List Stmt) _ (by (conv => lhs; simp only [bd1192, List.drop_succ_cons, List.drop_zero, List.take_succ_cons, List.take_zero, List.cons_append, List.nil_append]))
  exact fun b _ => b
theorem sgL17_eq : tlL17 = sgL17 := by unfold sgL17 tlL17 tlL18; rfl
@[reducible] def sgL18 : List Stmt := by
  refine (?f : ∀ b : List Stmt, List.take 3 (List.drop 18 bd1192) ++ tlL21 = b → List Stmt) _ (by (conv => lhs; simp only [bd1192, List.drop_succ_cons, List.drop_zero, List.take_succ_cons, List.take_zero, List.cons_append, List.nil_append]))
  exact fun b _ => b
theorem sgL18_eq : tlL18 = sgL18 := by unfold sgL18 tlL18 tlL21; rfl
@[reducible] def sgL21 : List Stmt := by
  refine (?f : ∀ b : List Stmt, List.take 1 (List.drop 21 bd1192) ++ tlL22 = b → List Stmt) _ (by (conv => lhs; simp only [bd1192, List.drop_succ_cons, List.drop_zero, List.take_succ_cons, List.take_zero, List.cons_append, List.nil_append]))
  exact fun b _ => b
theorem sgL21_eq : tlL21 = sgL21 := by unfold sgL21 tlL21 tlL22; rfl
@[reducible] def sgL22 : List Stmt := by
  refine (?f : ∀ b : List Stmt, List.drop 22 bd1192 = b → List Stmt) _ (by (conv => lhs; simp only [bd1192, List.drop_succ_cons, List.drop_zero, List.take_succ_cons, List.take_zero, List.cons_append, List.nil_append]))
  exact fun b _ => b
theorem sgL22_eq : tlL22 = sgL22 := by unfold tlL22; rfl
/-- the law's own frame -/
def lawA (L fa : Addr) (cd : Value) : Around := callerA.deeper (envOf (Str.ofString "law") sc1192 L fa cd)
theorem lawA_room (L fa : Addr) (cd : Value) : Room (lawA L fa cd) 9 := ⟨by unfold lawA; rw [units_deeper]; decide, by unfold lawA; rw [depth_deeper]; decide, rfl⟩
theorem lawA_frames (L fa : Addr) (cd : Value) : (lawA L fa cd).frames = some [envOf (Str.ofString "law") sc1192 L fa cd] := rfl

section
variable {w : World} {A A₀ : Around} {E : Value → Shared → Prop} {hp : Heap} {gs : Array GenState} {dr : Drawn} {tk₀ : Nat} {os : OsState} {h₀ base : Heap} {L : Addr} {m mg mb : Str → Option Value} {p : Program} {loose : List Str} {mean : ExcName → Option Value} {env : Env} {outer : List Env} {rest : Led} {j n : Nat} {told lat : Addr} {ns : List Int}
theorem pairGo {q kind : Int} {tk tkd : Tok} {Q : Value → Shared → Prop} (Pr : ∀ kind : Int, 0 ≤ kind → kind < 7 → Pair w rest told lat ns n kind) (hk : 0 ≤ kind) (hk' : kind < 7) (B : Below A₀ base outer h₀) (F : Fr h₀ L hp m) (X : (KF w.params).In h₀) (N : News h₀ L hp ((lat, listOf #[.int q tk] n) :: rest)) (T : Top p loose mean mg mb h₀) (hA : A.frames = some (env :: outer)) (hf : env.frame = some L) (hke : env.scope.kind = .function) (R : Room A (j + 9))
    (hT : Told h₀ rest told ns) (hq : 0 ≤ q) (hq' : q ≤ 50) (hlat : ∀ x ∈ rest, x.1 ≠ lat)
    (h : ∀ (wide : Bool) (num ans fur : Int) (o1 o2 : Option Int) (x1 x2 la lb tup : Addr) (rest' : Led) (t' tn ta : Tok) h' tk', KindOk kind wide num ans fur o1 o2 → PairRes w rest' wide num ans fur o1 o2 x1 x2 la lb → (∀ x ∈ rest, x ∈ rest') → (∀ x ∈ rest', x.1 ≠ lat) → Fr h₀ L h' m →
      News h₀ L h' ((tup, { cls := .type "tuple", data := .seq #[.ref x1, .ref x2, .ref la, .int num tn, .ref lb, .int ans ta, .bool wide] }) :: (lat, listOf #[.int (q + 5) t'] n) :: rest') → Q (.ref tup) ⟨h', gs, dr, tk', os⟩) :
    wpAny (model PySem.Challenge.rw_ff0002_01.row.prog w) A (call (.ref 1185) [.int kind tkd, .ref told, .ref lat]) Q E ⟨hp, gs, dr, tk₀, os⟩ :=
  Pr kind hk hk' p loose mean mg mb A env outer A₀ base h₀ L m ⟨hp, gs, dr, tk₀, os⟩ Q E j q tk tkd B F X N T hA hf hke R hT hq hq' hlat h
theorem one_isList {l : Addr} {t : Tok} {j : Int} {c : Nat} {led : Led} (N : News h₀ L hp led) (hm : (l, listOf (lst t (some j)) c) ∈ led) : hp.IsList l [Value.int j t].toArray := ⟨_, (N _ hm).1, rfl, c, rfl⟩
theorem item4 {value slice : Expr} {l : Addr} {v0 v1 v2 v3 : Value} {c : Nat} {k : Int} {u : Tok} {led : Led} {Q : Value → Shared → Prop} {prog : Program} (N : News h₀ L hp led) (hm : (l, listOf #[v0, v1, v2, v3] c) ∈ led) (h0 : 0 ≤ k) (h1 : k < 4)
    (q0 : k = 0 → Q v0 ⟨hp, gs, dr, tk₀, os⟩) (q1 : k = 1 → Q v1 ⟨hp, gs, dr, tk₀, os⟩) (q2 : k = 2 → Q v2 ⟨hp, gs, dr, tk₀, os⟩) (q3 : k = 3 → Q v3 ⟨hp, gs, dr, tk₀, os⟩)
    (hs : subscripted slice false (.ref l) (.int k u) = operate [.ref l, .int k u] (getItem (.ref l) (.int k u))) :
    wpAny (model prog w) A (subscriptTail value slice (.ref l) (.int k u)) Q E ⟨hp, gs, dr, tk₀, os⟩ := by
  have hl : hp.IsList l [v0, v1, v2, v3].toArray := ⟨_, (N _ hm).1, rfl, c, rfl⟩
  have hc : k = 0 ∨ k = 1 ∨ k = 2 ∨ k = 3 := by omega
  rcases hc with rfl | rfl | rfl | rfl
  · exact item_litK (s := ⟨hp, gs, dr, tk₀, os⟩) hl (by decide) (by decide) rfl (q0 rfl) hs
  · exact item_litK (s := ⟨hp, gs, dr, tk₀, os⟩) hl (by decide) (by decide) rfl (q1 rfl) hs
  · exact item_litK (s := ⟨hp, gs, dr, tk₀, os⟩) hl (by decide) (by decide) rfl (q2 rfl) hs
  · exact item_litK (s := ⟨hp, gs, dr, tk₀, os⟩) hl (by decide) (by decide) rfl (q3 rfl) hs
theorem Told.more {h₀ : Heap} {rest rest' : Led} {told : Addr} {ns : List Int} (T : Told h₀ rest told ns) (hs : ∀ x ∈ rest, x ∈ rest') : Told h₀ rest' told ns := by
  obtain ⟨its, hi, h | ⟨n, h⟩⟩ := T
  · exact ⟨its, hi, .inl h⟩
  · exact ⟨its, hi, .inr ⟨n, hs _ h⟩⟩
end

theorem fm256 (x : Int) : x.fmod 256 = x % 256 := Int.fmod_eq_emod_of_nonneg x (by decide)
theorem fd256 (x : Int) : x.fdiv 256 = x / 256 := Int.fdiv_eq_ediv_of_nonneg x (by decide)
theorem fm_lo (x : Int) : 0 ≤ x.fmod 256 := by rw [fm256]; omega
theorem fm_hi (x : Int) : x.fmod 256 ≤ 255 := by rw [fm256]; omega
/-- the four ways of sending -/
inductive WayOk : Int → Bool → Int → Int → Option Int → Prop
  | w0 : WayOk 0 true 77000 77000 (some 9)
  | w1 : WayOk 1 false 77 77 none
  | w2 : WayOk 2 true 416940804 417006340 none
  | w3 : WayOk 3 false 78 78 (some 10)
theorem WayOk.facts {way sp sp2 : Int} {w29 : Bool} {lo : Option Int} (h : WayOk way w29 sp sp2 lo) : w29 = ([0, 2].any fun x => x == way) ∧ ((way = 2 ∧ sp2 = 417006340) ∨ (way ≠ 2 ∧ sp2 = sp)) ∧ (∀ j, lo = some j → 0 ≤ j ∧ j ≤ 255) := by
  cases h
  · exact ⟨rfl, .inr ⟨by decide, rfl⟩, fun j e => by cases e; decide⟩
  · exact ⟨rfl, .inr ⟨by decide, rfl⟩, fun j e => by cases e⟩
  · exact ⟨rfl, .inl ⟨rfl, rfl⟩, fun j e => by cases e⟩
  · exact ⟨rfl, .inr ⟨by decide, rfl⟩, fun j e => by cases e; decide⟩
structure HalfRx (w : World) (rest : Led) (x : Addr) (wide : Bool) (n1 n2 : Int) (o : Option Int) : Prop where
  r : RxOf w rest 5 x wide n1 n2 o
  pt : Off w rest 5 x (Str.ofString "is_partial_address") [] (fun v => v = .bool true)
  ro : Off w rest 5 x (Str.ofString "is_rx_only") [] (fun v => v = .bool true)
  i : Inst 1036 rest x
structure HalfTx (w : World) (rest : Led) (x : Addr) (wide : Bool) (n1 n2 : Int) (o : Option Int) : Prop where
  t : TxOf w rest 5 x wide n1 n2 o
  pt : Off w rest 5 x (Str.ofString "is_partial_address") [] (fun v => v = .bool true)
  so : Off w rest 5 x (Str.ofString "is_tx_only") [] (fun v => v = .bool true)
  i : Inst 1036 rest x
theorem Inst.more {C : Addr} {rest rest' : Led} {x : Addr} (I : Inst C rest x) (hs : ∀ q ∈ rest, q ∈ rest') : Inst C rest' x := by
  obtain ⟨d, es, n, a, b⟩ := I
  exact ⟨d, es, n, hs _ a, hs _ b⟩
theorem HalfRx.more {w : World} {rest rest' : Led} {x : Addr} {wide : Bool} {n1 n2 : Int} {o : Option Int} (H : HalfRx w rest x wide n1 n2 o) (hs : ∀ q ∈ rest, q ∈ rest') : HalfRx w rest' x wide n1 n2 o :=
  ⟨H.r.more hs (by decide), H.pt.more hs (by decide), H.ro.more hs (by decide), H.i.more hs⟩
theorem PairRes.more {w : World} {rest rest' : Led} {wide : Bool} {num ans fur : Int} {o1 o2 : Option Int} {x1 x2 la lb : Addr} (P : PairRes w rest wide num ans fur o1 o2 x1 x2 la lb) (hs : ∀ q ∈ rest, q ∈ rest') : PairRes w rest' wide num ans fur o1 o2 x1 x2 la lb :=
  ⟨P.t1.more hs (by decide), P.r1.more hs (by decide), P.t2.more hs (by decide), P.r2.more hs (by decide), let ⟨t, n, h⟩ := P.l1; ⟨t, n, hs _ h⟩, let ⟨t, n, h⟩ := P.l2; ⟨t, n, hs _ h⟩⟩
theorem rx_cast2 {w : World} {rest : Led} {k : Nat} {x : Addr} {wide : Bool} {n1 n2 n1' n2' : Int} {o : Option Int} (e1 : n1 = n1') (e2 : n2 = n2') (h : RxOf w rest k x wide n1 n2 o) : RxOf w rest k x wide n1' n2' o := e1 ▸ e2 ▸ h
theorem tx_cast2 {w : World} {rest : Led} {k : Nat} {x : Addr} {wide : Bool} {n1 n2 n1' n2' : Int} {o : Option Int} (e1 : n1 = n1') (e2 : n2 = n2') (h : TxOf w rest k x wide n1 n2 o) : TxOf w rest k x wide n1' n2' o := e1 ▸ e2 ▸ h
section
variable {w : World} {rest : Led} {x d xs xr : Addr} {es : List DictEntry} {n k : Nat} {wide : Bool} {n1 n2 : Int} {o : Option Int}
theorem asym_tx (H1 : (x, instObj 1141 d) ∈ rest) (H2 : (d, dictOf es n) ∈ rest) (H : HasA es xs xr) (T : TxOf w rest k xs wide n1 n2 o) : TxOf w rest (k + 1) x wide n1 n2 o :=
  ⟨a_getTx0 w H1 H2 H T.getP, a_getTx w rfl H1 H2 H T.getP, a_getTx w rfl H1 H2 H T.getF, a_pfx w H1 H2 H T.pfx, a_tx29 w H1 H2 H T.w29, a_reqTx w H1 H2 H T.req, a_txExt w H1 H2 H T.ext⟩
theorem asym_rx (H1 : (x, instObj 1141 d) ∈ rest) (H2 : (d, dictOf es n) ∈ rest) (H : HasA es xs xr) (T : RxOf w rest k xr wide n1 n2 o) : RxOf w rest (k + 1) x wide n1 n2 o :=
  ⟨a_getRx0 w H1 H2 H T.getP, a_getRx w rfl H1 H2 H T.getP, a_getRx w rfl H1 H2 H T.getF, a_psz w H1 H2 H T.psz, a_rx29 w H1 H2 H T.w29, a_reqRx w H1 H2 H T.req, a_rxExt w H1 H2 H T.ext,
    fun y dy sent t b u wd hb h0 h1 => a_me w rfl (.tail _ (.tail _ H1)) (.tail _ (.tail _ H2)) H (T.me y dy sent t b u wd hb h0 h1)⟩
end
section
variable {w : World} {rest : Led} {x d : Addr} {es : List DictEntry} {n : Nat} {al : List (Nat × Value)} {M : Addr} {w29 wide : Bool} {ta sa xt rxid ph fu pfx rp rf tp tf o : Option Int} {psz n1 n2 : Int}
theorem halfRx (h1 : (x, instObj 1036 d) ∈ rest) (h2 : (d, dictOf es n) ∈ rest) (H : Has es al) (a : Ad al M true false w29 ta sa xt rxid ph fu pfx psz rp rf tp tf) (r : RxOf w rest 5 x wide n1 n2 o) : HalfRx w rest x wide n1 n2 o :=
  ⟨r, part10 h1 h2 H a, rxOnly h1 h2 H a, ⟨d, es, n, h1, h2⟩⟩
theorem halfTx (h1 : (x, instObj 1036 d) ∈ rest) (h2 : (d, dictOf es n) ∈ rest) (H : Has es al) (a : Ad al M false true w29 ta sa xt rxid ph fu pfx psz rp rf tp tf) (r : TxOf w rest 5 x wide n1 n2 o) : HalfTx w rest x wide n1 n2 o :=
  ⟨r, part01 h1 h2 H a, txOnly h1 h2 H a, ⟨d, es, n, h1, h2⟩⟩
end

def forIn : Stmt → List Stmt
  | .For _ _ b _ _ => b
  | _ => []
@[reducible] def bdF : List Stmt := by
  refine (?f : ∀ b : List Stmt, forIn (nth bd1192 21) = b → List Stmt) _ (by (conv => lhs; simp only [bd1192, nth, forIn]))
  exact fun b _ => b
@[irreducible] def tlF1 : List Stmt := List.drop 1 bdF
@[irreducible] def tlF2 : List Stmt := List.drop 2 bdF
@[irreducible] def tlF3 : List Stmt := List.drop 3 bdF
@[irreducible] def tlF4 : List Stmt := List.drop 4 bdF
@[irreducible] def tlF6 : List Stmt := List.drop 6 bdF
@[irreducible] def tlF8 : List Stmt := List.drop 8 bdF
@[irreducible] def tlF9 : List Stmt := List.drop 9 bdF
@[reducible] def sgF0 : List Stmt := by
  refine (?f : ∀ b : List Stmt, List.take 1 (List.drop 0 bdF) ++ tlF1 = b → List Stmt) _ (by (conv => lhs; simp only [bdF, List.drop_succ_cons, List.drop_zero, List.take_succ_cons, List.take_zero, List.cons_append, List.nil_append]))
  exact fun b _ => b
theorem sgF0_eq : bdF = sgF0 := by unfold sgF0 tlF1; rfl
@[reducible] def sgF1 : List Stmt := by
  refine (?f : ∀ b : List Stmt, List.take 1 (List.drop 1 bdF) ++ tlF2 = b → List Stmt) _ (by (conv => lhs; simp only [bdF, List.drop_succ_cons, List.drop_zero, List.take_succ_cons, List.take_zero, List.cons_append, List.nil_append]))
  exact fun b _ => b
theorem sgF1_eq : tlF1 = sgF1 := by unfold sgF1 tlF1 tlF2; rfl
@[reducible] def sgF2 : List Stmt := by
  refine (?f : ∀ b : List Stmt, List.take 1 (List.drop 2 bdF) ++ tlF3 = b → List Stmt) _ (by (conv => lhs; simp only [bdF, List.drop_succ_cons, List.drop_zero, List.take_succ_cons, List.take_zero, List.cons_append, List.nil_append]))
  exact fun b _ => b
theorem sgF2_eq : tlF2 = sgF2 := by unfold sgF2 tlF2 tlF3; rfl
@[reducible] def sgF3 : List Stmt := by
  refine (?f : ∀ b : List Stmt, List.take 1 (List.drop 3 bdF) ++ tlF4 = b → List Stmt) _ (by (conv => lhs; simp only [bdF, List.drop_succ_cons, List.drop_zero, List.take_succ_cons, List.take_zero, List.cons_append, List.nil_append]))
  exact fun b _ => b
theorem sgF3_eq : tlF3 = sgF3 := by unfold sgF3 tlF3 tlF4; rfl
@[reducible] def sgF4 : List Stmt := by
  refine (?f : ∀ b : List Stmt, List.take 2 (List.drop 4 bdF) ++ tlF6 = b → List Stmt) _ (by (conv => lhs; simp only [bdF, List.drop_succ_cons, List.drop_zero, List.take_succ_cons, List.take_zero, List.cons_append, List.nil_append]))
  exact fun b _ => b
theorem sgF4_eq : tlF4 = sgF4 := by unfold sgF4 tlF4 tlF6; rfl
@[reducible] def sgF6 : List Stmt := by
  refine (?f : ∀ b : List Stmt, List.take 2 (List.drop 6 bdF) ++ tlF8 = b → List Stmt) _ (by (conv => lhs; simp only [bdF, List.drop_succ_cons, List.drop_zero, List.take_succ_cons, List.take_zero, List.cons_append, List.nil_append]))
  exact fun b _ => b
theorem sgF6_eq : tlF6 = sgF6 := by unfold sgF6 tlF6 tlF8; rfl
@[reducible] def sgF8 : List Stmt := by
  refine (?f : ∀ b : List Stmt, List.take 1 (List.drop 8 bdF) ++ tlF9 = b → List Stmt) _ (by (conv => lhs; simp only [bdF, List.drop_succ_cons, List.drop_zero, List.take_succ_cons, List.take_zero, List.cons_append, List.nil_append]))
  exact fun b _ => b
theorem sgF8_eq : tlF8 = sgF8 := by unfold sgF8 tlF8 tlF9; rfl
@[reducible] def sgF9 : List Stmt := by
  refine (?f : ∀ b : List Stmt, List.drop 9 bdF = b → List Stmt) _ (by (conv => lhs; simp only [bdF, List.drop_succ_cons, List.drop_zero, List.take_succ_cons, List.take_zero, List.cons_append, List.nil_append]))
  exact fun b _ => b
theorem sgF9_eq : tlF9 = sgF9 := by unfold tlF9; rfl
theorem xor_nat {x y : Nat} (hx : x < 2 ^ 29) (hy : y < 2 ^ 29) : 0 ≤ Builtin.bitXor (x : Int) (y : Int) ∧ Builtin.bitXor (x : Int) (y : Int) < 536870912 := by
  have e := nat_or_add_and x y
  have h1 : x ||| y < 2 ^ 29 := Nat.or_lt_two_pow hx hy
  have h2 : x &&& y ≤ x := Nat.and_le_left
  have h3 : x &&& y ≤ y := Nat.and_le_right
  rw [bitXor_and, bitAnd_pp (Int.natCast_nonneg _) (Int.natCast_nonneg _), Int.toNat_natCast, Int.toNat_natCast]
  rw [show (2 : Nat) ^ 29 = 536870912 from by decide] at h1
  omega
theorem xor_bit {b v : Int} (h0 : 0 ≤ b) (h1 : b < 536870912) (_v0 : 0 ≤ v) (v1 : v < 29) : 0 ≤ Builtin.bitXor b (1 * 2 ^ v.toNat) ∧ Builtin.bitXor b (1 * 2 ^ v.toNat) < 536870912 := by
  obtain ⟨x, rfl⟩ := Int.eq_ofNat_of_zero_le h0
  have e : (1 * 2 ^ v.toNat : Int) = ((2 ^ v.toNat : Nat) : Int) := by rw [Int.one_mul, kbt_cast]
  rw [e]
  refine xor_nat (by rw [show (2 : Nat) ^ 29 = 536870912 from by decide]; omega) (Nat.pow_lt_pow_right (by decide) (by omega))
section
variable {prog : Program} {w : World} {A : Around} {E : Value → Shared → Prop} {s : Shared} {env : Env} {h₀ : Heap} {x : Str} {body : List Stmt} {Q : Flow → Shared → Prop}
theorem iter_rangeJ {r : Addr} {a₀ b₀ : Int} {t₀ u₀ v₀ : Tok} {n : Nat} {m₀ : Str → Option Value} {news : Led} (J : Nat → (Str → Option Value) → Led → Prop)
    (hh : A.handled = none) (hr : IsRange s.heap r a₀ b₀ 1 t₀ u₀ v₀) (hsmall : Builtin.Range.small a₀ b₀ 1 = true) (hn : Builtin.Range.rangeSize a₀ b₀ 1 = (n : Int)) (F : Fr h₀ env.locals s.heap m₀) (N : News h₀ env.locals s.heap news) (hj : J 0 m₀ news)
    (turn : ∀ (i : Nat) t m₁ nx h tk own, i < n → OwnOff own (news.map (·.1)) → J i m₁ nx → Fr h₀ env.locals h (fun y => if y = x then some (.int (a₀ + (i : Int)) t) else m₁ y) → News h₀ env.locals h (nx ++ own) →
      wpAny (model prog w) A (execs body env) (InvPostN h₀ env.locals (J (i + 1)) own (news.map (·.1)) { s with heap := h, toks := tk } Q) E { s with heap := h, toks := tk })
    (done : ∀ m₁ nx h tk, J n m₁ nx → Fr h₀ env.locals h m₁ → News h₀ env.locals h nx → Q .next { s with heap := h, toks := tk }) :
    wpAny (model prog w) A (pyIter (.ref r)) (fun it s₂ => LoopAtV prog w A h₀ env x body Q E it s₂) E s := by
  refine wpAny_pyIter_range hr hsmall ?_
  refine loop_invN J (Walks.range hh s.heap.objs.size a₀ 1 n).bound ?_ ?_ ?_ ?_ (by show IsRangeIter _ _ _ _ _; rw [hn]; simpa using Heap.get?_push_size _ rfl) (F.push _) (fun p hp => ⟨Heap.get?_push_of_some _ (N p hp).1, (N p hp).2⟩) hj ?_ ?_
  · exact fun hm => absurd F.ns.lt ((List.mem_singleton.mp hm) ▸ Nat.lt_irrefl _)
  · intro b hb
    rw [List.mem_singleton.mp hb]
    exact next_is_new F
  · exact fun p hp hI => absurd (Heap.lt_size (N p hp).1) ((List.mem_singleton.mp hI) ▸ Nat.lt_irrefl _)
  · exact fun p hp hI => absurd (Heap.lt_size (N p hp).1) ((List.mem_singleton.mp hI) ▸ Nat.lt_irrefl _)
  · rintro i v m₁ nx h tk own hi ⟨_, t, rfl⟩ _ hoff hJ F₁ N₁
    rw [show a₀ + (i : Int) * 1 = a₀ + (i : Int) by omega] at F₁
    exact turn i t m₁ nx h tk own hi hoff hJ F₁ N₁
  · exact fun m₁ nx h tk hJ F₁ N₁ => done m₁ nx h tk hJ F₁ N₁
end

def bOf (os : List Int) : Array UInt8 := (os.map fun n => n.toNat.toUInt8).toArray
theorem bOf_size (os : List Int) : (bOf os).size = os.length := by simp [bOf]
theorem hd_bOf_nil : hd (bOf []) = none := rfl
theorem hd_bOf_cons {c : Int} {os : List Int} (h0 : 0 ≤ c) (h1 : c ≤ 255) : hd (bOf (c :: os)) = some c := by
  have e : ((c.toNat.toUInt8).toNat : Int) = c := by
    have : c.toNat < 256 := by omega
    simp only [Nat.toUInt8, UInt8.toNat_ofNat', Nat.reducePow]
    omega
  show some (((c.toNat.toUInt8).toNat : Nat) : Int) = some c
  rw [e]
theorem lawA_units (L fa : Addr) (cd : Value) : (lawA L fa cd).units + 64 < cLine := by unfold lawA; rw [units_deeper]; decide
theorem any_two {a b x : Int} : ([a, b].any fun y => y == x) = decide (x = a ∨ x = b) := by
  rw [Bool.eq_iff_iff]
  simp only [List.any_cons, List.any_nil, Bool.or_false, Bool.or_eq_true, beq_iff_eq, decide_eq_true_eq]
  constructor
  · rintro (h | h)
    · exact .inl h.symm
    · exact .inr h.symm
  · rintro (h | h)
    · exact .inl h.symm
    · exact .inr h.symm
section
variable {num fur se : Int} {wd wide : Bool} {P : Prop} [Decidable P]
theorem due1 (h : ([num, fur].any fun x => x == se) = false) : ([num, fur].any fun x => x == se) = decide (wd = wide ∧ (se = num ∨ se = fur) ∧ P) := by
  rw [h]
  rw [any_two] at h
  exact (decide_eq_false fun ⟨_, z, _⟩ => (of_decide_eq_false h) z).symm
theorem due2 (h : (wd == wide) = false) : (wd == wide) = decide (wd = wide ∧ (se = num ∨ se = fur) ∧ P) := by
  rw [h]
  exact (decide_eq_false fun ⟨z, _, _⟩ => by simp [z] at h).symm
theorem due3n {os : List Int} (h1 : ([num, fur].any fun x => x == se) = true) (h2 : (wd == wide) = true) : decide (([] : List Int) = []) = decide (wd = wide ∧ (se = num ∨ se = fur) ∧ ((none : Option Int) = none ∨ hd (bOf os) = none)) := by
  rw [any_two] at h1
  exact (decide_eq_true (p := wd = wide ∧ (se = num ∨ se = fur) ∧ ((none : Option Int) = none ∨ hd (bOf os) = none)) ⟨beq_iff_eq.mp h2, of_decide_eq_true h1, .inl rfl⟩).symm
theorem due3t {P : Prop} {D : Decidable (wd = wide ∧ (se = num ∨ se = fur) ∧ (True ∨ P))} (h1 : ([num, fur].any fun x => x == se) = true) (h2 : (wd == wide) = true) : decide (([] : List Int) = []) = @decide (wd = wide ∧ (se = num ∨ se = fur) ∧ (True ∨ P)) D := by
  rw [any_two] at h1
  exact (decide_eq_true (p := wd = wide ∧ (se = num ∨ se = fur) ∧ (True ∨ P)) ⟨beq_iff_eq.mp h2, of_decide_eq_true h1, .inl trivial⟩).symm
theorem due3s {os : List Int} {j : Int} (h1 : ([num, fur].any fun x => x == se) = true) (h2 : (wd == wide) = true) (hr : ∀ x ∈ os, 0 ≤ x ∧ x ≤ 255) : decide (List.take 1 os = [j]) = decide (wd = wide ∧ (se = num ∨ se = fur) ∧ (some j = none ∨ hd (bOf os) = some j)) := by
  rw [any_two] at h1
  have e2 := beq_iff_eq.mp h2
  have e1 := of_decide_eq_true h1
  rw [Bool.eq_iff_iff, decide_eq_true_eq, decide_eq_true_eq]
  cases os with
  | nil => simp [hd_bOf_nil]
  | cons c r =>
    have hc := hr c (.head _)
    rw [hd_bOf_cons hc.1 hc.2]
    simp [e1, e2]
end
section
variable {w : World} {prog : Program} {A : Around} {E : Value → Shared → Prop} {hp : Heap} {gs : Array GenState} {dr : Drawn} {tk₀ : Nat} {os : OsState} {h₀ : Heap} {L : Addr} {m : Str → Option Value} {led : Led} {l : Addr} {its : List Value} {ns : List Int} {c : Nat}
theorem bytesGo {Q : Value → Shared → Prop} (F : Fr h₀ L hp m) (N : News h₀ L hp led) (hm : (l, listOf its.toArray c) ∈ led) (hi : IntsAre its ns) (hr : ∀ x ∈ ns, 0 ≤ x ∧ x ≤ 255) (hz : ns.length ≤ 3) (hh : A.handled = none)
    (h : ∀ h' t tk, Fr h₀ L h' m → News h₀ L h' led → Q (.bytes (bOf ns) t) ⟨h', gs, dr, tk, os⟩) : wpAny (model prog w) A (call (.type "bytes") [.ref l]) Q E ⟨hp, gs, dr, tk₀, os⟩ :=
  bytes_K (s := ⟨hp, gs, dr, tk₀, os⟩) F N ⟨_, (N _ hm).1, rfl, c, rfl⟩ hi (fun x hx => ⟨(hr x hx).1, by have := (hr x hx).2; omega⟩) (Nat.le_trans (by rw [hi.length]; exact hz) (show 3 ≤ sizeLine from by decide)) hh fun h' t k F' N' _ => h h' t k F' N'
theorem eqGo {a b : Addr} {vs us : List Value} {xs ys : List Int} {c1 c2 : Nat} {Q : Value → Shared → Prop} (N : News h₀ L hp led) (ha : (a, listOf vs.toArray c1) ∈ led) (hi : IntsAre vs xs) (hb : (b, listOf us.toArray c2) ∈ led) (hi' : IntsAre us ys) (hu : A.units + 64 < cLine) (h : Q (.bool (decide (xs = ys))) ⟨hp, gs, dr, tk₀, os⟩) :
    wpAny (model prog w) A (compareOp .Eq (.ref a) (.ref b)) Q E ⟨hp, gs, dr, tk₀, os⟩ :=
  eq_intsK (s := ⟨hp, gs, dr, tk₀, os⟩) ⟨_, (N _ ha).1, rfl, c1, rfl⟩ hi ⟨_, (N _ hb).1, rfl, c2, rfl⟩ hi' hu h
theorem news_isList (N : News h₀ L hp led) (hm : (l, listOf its.toArray c) ∈ led) : hp.IsList l its.toArray := ⟨_, (N _ hm).1, rfl, c, rfl⟩
end
theorem bne_no {a b : Bool} (e : b = a) : ¬ ((a != b) = true) := by rw [e]; simp
section
variable {w : World} {A A₀ : Around} {E : Value → Shared → Prop} {hp : Heap} {gs : Array GenState} {dr : Drawn} {tk₀ : Nat} {os : OsState} {h₀ base : Heap} {L a x y dy : Addr} {m mg mb : Str → Option Value} {cn : Str} {cs : Scope} {ccd : Value} {p : Program} {loose : List Str} {mean : ExcName → Option Value} {env : Env} {outer : List Env} {led rest : Led} {k j : Nat} {wide wd : Bool} {n1 n2 sent : Int} {o : Option Int} {t u : Tok} {b : Array UInt8}
theorem offMe {pl : Sem Bool} {e : Expr} {z : Str} {p₂ p₃ p₄ : Pos} {Q : Value → Shared → Prop} (Rx : RxOf w rest k x wide n1 n2 o) (hy : (y, msgO dy (msgS sent t b u wd)) ∈ led) (hdy : (dy, dictOf [] 0) ∈ led) (hb : b.size ≤ 64) (h0 : 0 ≤ sent) (h1 : sent < 536870912) (hs : ∀ q ∈ rest, q ∈ led)
    (B : Below A₀ base outer h₀) (F : Fr h₀ L hp m) (X : (KF w.params).In h₀) (N : News h₀ L hp led) (T : Top p loose mean mg mb h₀) (hA : A.frames = some (env :: outer)) (hf : env.frame = some L) (hke : env.scope.kind = .function) (R : Room A (j + k))
    (hev : ∀ Q' : Value → Shared → Prop, (∀ tk, Q' (.ref x) ⟨hp, gs, dr, tk, os⟩) → wpAny (model PySem.Challenge.rw_ff0002_01.row.prog w) A (eval e (envOf cn cs L a ccd)) Q' E ⟨hp, gs, dr, tk₀, os⟩)
    (hz : m z = some (.ref y)) (h : ∀ v h' tk', HearsP wide n1 n2 o sent b wd v → Fr h₀ L h' m → News h₀ L h' led → Q v ⟨h', gs, dr, tk', os⟩)
    (hk : cs.kind = .function) (hx' : (envX cn cs L a ccd []).kindOf z = some .local) (hd' : (z == ("__debug__" : Str)) = false)
    (he : eval (.Call (.Attribute e (Str.ofString "is_for_me") p₂) [.Name z p₄] [] p₃) (envOf cn cs L a ccd) = (do
      let ov ← eval e (envOf cn cs L a ccd)
      standAt p₂.atName
      let (f, first) ← holding [ov] (getMethod ov (Str.ofString "is_for_me") pl)
      callWith p₃ f first (backTo p₃ (starEach [.Name z p₄] (envOf cn cs L a ccd))) [])) :
    wpAny (model PySem.Challenge.rw_ff0002_01.row.prog w) A (eval (.Call (.Attribute e (Str.ofString "is_for_me") p₂) [.Name z p₄] [] p₃) (envOf cn cs L a ccd)) Q E ⟨hp, gs, dr, tk₀, os⟩ :=
  offE1 (Rx.me y dy sent t b u wd hb h0 h1) (sub2 hy hdy hs) B F X N T hA hf hke R hev hz h hk hx' hd' he
end

def forIt : Stmt → Expr
  | .For _ i _ _ _ => i
  | _ => .Constant .none 0 ⟨0, 0, 0, 0⟩
@[reducible] def itF : Expr := by
  refine (?f : ∀ b : Expr, forIt (nth bd1192 21) = b → Expr) _ (by (conv => lhs; simp only [bd1192, nth, forIt]))
  exact fun b _ => b

section
local macro_rules | `(tactic| walk_at "eval Name") => `(tactic| (k_here; (first | (with_reducible show wpAny _ _ (eval (Expr.Name (Str.ofString "_law_drawn") _) _) _ _ _) | (with_reducible show wpAny _ _ (eval (Expr.Name (Str.ofString "_law_pair") _) _) _ _ _) | (with_reducible show wpAny _ _ (eval (Expr.Name (Str.ofString "Address") _) _) _ _ _) | (with_reducible show wpAny _ _ (eval (Expr.Name (Str.ofString "AsymmetricAddress") _) _) _ _ _) | (with_reducible show wpAny _ _ (eval (Expr.Name (Str.ofString "CanMessage") _) _) _ _ _)); refine' gl ?k1 ?k2 ?k3 ?k4 ?_ ?ka ?kb; k_dflt ((case k1 => k_asm); (case k2 => k_asm); (case k3 => k_asm); (case k4 => with_reducible constructor); (case ka => exact rfl); (case kb => first | with_reducible assumption | kernel_rfl); k_whole)))
local macro_rules | `(tactic| walk_at "call ref cons") => `(tactic| (k_here; (with_reducible show wpAny _ _ (call (Value.ref 1178) [Value.ref _, Value.ref _, Value.int _ _]) _ _ _); refine' drawGo (by with_reducible assumption) ?k1 ?k2 ?k3 ?k4 ?k5 ?kA ?kF ?kK ?kR ?kT ?kq ?kp ?kb ?kc ?_; k_dflt ((case k2 => k_asm); (case k3 => k_asm); (case k4 => first | k_asm | exact news_tl (by k_asm) | exact news_tl (news_tl (by k_asm)) | exact news_tl (news_tl (news_tl (by k_asm)))); (case kT => with_reducible assumption); (case k1 => k_asm); (case k5 => k_asm); (case kA => first | with_reducible assumption | exact Around.frames_deeper (Below.stack (by with_reducible assumption)) | exact rfl); (case kF => first | with_reducible assumption | exact rfl); (case kK => first | with_reducible assumption | exact rfl); (case kR => first | assumption | exact Room.le (by assumption) (by omega)); (case kq => omega); (case kp => omega); (case kb => decide); (case kc => decide); k_whole); intro v' t' t'' h' tk' hv0' hv1' F' N'; k_sweep))
local macro_rules | `(tactic| walk_at "kc_N11") => `(tactic| (first | exact pN11 _ _ _ _ _ (by first | with_reducible assumption | omega | exact fm_lo _ | exact fm_hi _) (by first | with_reducible assumption | omega | exact fm_lo _ | exact fm_hi _) (by first | with_reducible assumption | omega | exact fm_lo _ | exact fm_hi _) (by first | with_reducible assumption | omega | exact fm_lo _ | exact fm_hi _) (by first | with_reducible assumption | omega | exact fm_lo _ | exact fm_hi _) | exact hN11 _ _ _ (by first | with_reducible assumption | omega | exact fm_lo _ | exact fm_hi _) (by first | with_reducible assumption | omega | exact fm_lo _ | exact fm_hi _) | exact sN11 _ _ _ (by first | with_reducible assumption | omega | exact fm_lo _ | exact fm_hi _) (by first | with_reducible assumption | omega | exact fm_lo _ | exact fm_hi _)))
local macro_rules | `(tactic| walk_at "call ref cons") => `(tactic| (k_here; (with_reducible show wpAny _ _ (call (Value.ref 1036) [Value.ref 643] _) _ _ _); refine' addrGo ?kC ?k1 ?k2 ?k3 ?k4 ?k5 ?kA ?kF ?kK ?kR ?_; k_dflt ((case k2 => k_asm); (case k3 => k_asm); (case k4 => k_asm); (case kC => walk_at "kc_N11"); (case k1 => k_asm); (case k5 => k_asm); (case kA => first | with_reducible assumption | exact Around.frames_deeper (Below.stack (by with_reducible assumption)) | exact rfl); (case kF => first | with_reducible assumption | exact rfl); (case kK => first | with_reducible assumption | exact rfl); (case kR => first | assumption | exact Room.le (by assumption) (by omega)); k_whole); intro x' d' es' n' al' h' tk' F' N' H' fa' lt1' lt2'; (try k_lt lt2'); (try k_lt2 lt1'); k_sweep))
local macro_rules | `(tactic| walk_at "kc_N29") => `(tactic| (first | exact pN29 _ _ _ _ _ (by first | with_reducible assumption | omega | exact fm_lo _ | exact fm_hi _) (by first | with_reducible assumption | omega | exact fm_lo _ | exact fm_hi _) (by first | with_reducible assumption | omega | exact fm_lo _ | exact fm_hi _) | exact hN29 _ _ _ (by first | with_reducible assumption | omega | exact fm_lo _ | exact fm_hi _)))
local macro_rules | `(tactic| walk_at "call ref cons") => `(tactic| (k_here; (with_reducible show wpAny _ _ (call (Value.ref 1036) [Value.ref 645] _) _ _ _); refine' addrGo ?kC ?k1 ?k2 ?k3 ?k4 ?k5 ?kA ?kF ?kK ?kR ?_; k_dflt ((case k2 => k_asm); (case k3 => k_asm); (case k4 => k_asm); (case kC => walk_at "kc_N29"); (case k1 => k_asm); (case k5 => k_asm); (case kA => first | with_reducible assumption | exact Around.frames_deeper (Below.stack (by with_reducible assumption)) | exact rfl); (case kF => first | with_reducible assumption | exact rfl); (case kK => first | with_reducible assumption | exact rfl); (case kR => first | assumption | exact Room.le (by assumption) (by omega)); k_whole); intro x' d' es' n' al' h' tk' F' N' H' fa' lt1' lt2'; (try k_lt lt2'); (try k_lt2 lt1'); k_sweep))
local macro_rules | `(tactic| walk_at "kc_NF29") => `(tactic| (first | exact pNF29 _ _ _ _ _ (by first | with_reducible assumption | omega | exact fm_lo _ | exact fm_hi _) (by first | with_reducible assumption | omega | exact fm_lo _ | exact fm_hi _) (by first | with_reducible assumption | omega | exact fm_lo _ | exact fm_hi _) (by first | with_reducible assumption | omega | exact fm_lo _ | exact fm_hi _) | exact hNF29 _ _ _ _ _ (by first | with_reducible assumption | omega | exact fm_lo _ | exact fm_hi _) (by first | with_reducible assumption | omega | exact fm_lo _ | exact fm_hi _) (by first | with_reducible assumption | omega | exact fm_lo _ | exact fm_hi _) (by first | with_reducible assumption | omega | exact fm_lo _ | exact fm_hi _) | exact sNF29 _ _ _ _ _ (by first | with_reducible assumption | omega | exact fm_lo _ | exact fm_hi _) (by first | with_reducible assumption | omega | exact fm_lo _ | exact fm_hi _) (by first | with_reducible assumption | omega | exact fm_lo _ | exact fm_hi _) (by first | with_reducible assumption | omega | exact fm_lo _ | exact fm_hi _)))
local macro_rules | `(tactic| walk_at "call ref cons") => `(tactic| (k_here; (with_reducible show wpAny _ _ (call (Value.ref 1036) [Value.ref 647] _) _ _ _); refine' addrGo ?kC ?k1 ?k2 ?k3 ?k4 ?k5 ?kA ?kF ?kK ?kR ?_; k_dflt ((case k2 => k_asm); (case k3 => k_asm); (case k4 => k_asm); (case kC => walk_at "kc_NF29"); (case k1 => k_asm); (case k5 => k_asm); (case kA => first | with_reducible assumption | exact Around.frames_deeper (Below.stack (by with_reducible assumption)) | exact rfl); (case kF => first | with_reducible assumption | exact rfl); (case kK => first | with_reducible assumption | exact rfl); (case kR => first | assumption | exact Room.le (by assumption) (by omega)); k_whole); intro x' d' es' n' al' h' tk' F' N' H' fa' lt1' lt2'; (try k_lt lt2'); (try k_lt2 lt1'); k_sweep))
local macro_rules | `(tactic| walk_at "kc_E11") => `(tactic| (first | exact pE11 _ _ _ _ _ _ _ _ _ (by first | with_reducible assumption | omega | exact fm_lo _ | exact fm_hi _) (by first | with_reducible assumption | omega | exact fm_lo _ | exact fm_hi _) (by first | with_reducible assumption | omega | exact fm_lo _ | exact fm_hi _) (by first | with_reducible assumption | omega | exact fm_lo _ | exact fm_hi _) (by first | with_reducible assumption | omega | exact fm_lo _ | exact fm_hi _) (by first | with_reducible assumption | omega | exact fm_lo _ | exact fm_hi _) (by first | with_reducible assumption | omega | exact fm_lo _ | exact fm_hi _) (by first | with_reducible assumption | omega | exact fm_lo _ | exact fm_hi _) (by first | with_reducible assumption | omega | exact fm_lo _ | exact fm_hi _) | exact hE11 _ _ _ _ _ (by first | with_reducible assumption | omega | exact fm_lo _ | exact fm_hi _) (by first | with_reducible assumption | omega | exact fm_lo _ | exact fm_hi _) (by first | with_reducible assumption | omega | exact fm_lo _ | exact fm_hi _) (by first | with_reducible assumption | omega | exact fm_lo _ | exact fm_hi _)))
local macro_rules | `(tactic| walk_at "call ref cons") => `(tactic| (k_here; (with_reducible show wpAny _ _ (call (Value.ref 1036) [Value.ref 649] _) _ _ _); refine' addrGo ?kC ?k1 ?k2 ?k3 ?k4 ?k5 ?kA ?kF ?kK ?kR ?_; k_dflt ((case k2 => k_asm); (case k3 => k_asm); (case k4 => k_asm); (case kC => walk_at "kc_E11"); (case k1 => k_asm); (case k5 => k_asm); (case kA => first | with_reducible assumption | exact Around.frames_deeper (Below.stack (by with_reducible assumption)) | exact rfl); (case kF => first | with_reducible assumption | exact rfl); (case kK => first | with_reducible assumption | exact rfl); (case kR => first | assumption | exact Room.le (by assumption) (by omega)); k_whole); intro x' d' es' n' al' h' tk' F' N' H' fa' lt1' lt2'; (try k_lt lt2'); (try k_lt2 lt1'); k_sweep))
local macro_rules | `(tactic| walk_at "kc_E29") => `(tactic| (first | exact pE29 _ _ _ _ _ _ _ _ _ (by first | with_reducible assumption | omega | exact fm_lo _ | exact fm_hi _) (by first | with_reducible assumption | omega | exact fm_lo _ | exact fm_hi _) (by first | with_reducible assumption | omega | exact fm_lo _ | exact fm_hi _) (by first | with_reducible assumption | omega | exact fm_lo _ | exact fm_hi _) (by first | with_reducible assumption | omega | exact fm_lo _ | exact fm_hi _) (by first | with_reducible assumption | omega | exact fm_lo _ | exact fm_hi _) (by first | with_reducible assumption | omega | exact fm_lo _ | exact fm_hi _) | exact hE29 _ _ _ _ _ (by first | with_reducible assumption | omega | exact fm_lo _ | exact fm_hi _) (by first | with_reducible assumption | omega | exact fm_lo _ | exact fm_hi _) (by first | with_reducible assumption | omega | exact fm_lo _ | exact fm_hi _) | exact sE29 _ _ _ _ _ (by first | with_reducible assumption | omega | exact fm_lo _ | exact fm_hi _) (by first | with_reducible assumption | omega | exact fm_lo _ | exact fm_hi _) (by first | with_reducible assumption | omega | exact fm_lo _ | exact fm_hi _)))
local macro_rules | `(tactic| walk_at "call ref cons") => `(tactic| (k_here; (with_reducible show wpAny _ _ (call (Value.ref 1036) [Value.ref 651] _) _ _ _); refine' addrGo ?kC ?k1 ?k2 ?k3 ?k4 ?k5 ?kA ?kF ?kK ?kR ?_; k_dflt ((case k2 => k_asm); (case k3 => k_asm); (case k4 => k_asm); (case kC => walk_at "kc_E29"); (case k1 => k_asm); (case k5 => k_asm); (case kA => first | with_reducible assumption | exact Around.frames_deeper (Below.stack (by with_reducible assumption)) | exact rfl); (case kF => first | with_reducible assumption | exact rfl); (case kK => first | with_reducible assumption | exact rfl); (case kR => first | assumption | exact Room.le (by assumption) (by omega)); k_whole); intro x' d' es' n' al' h' tk' F' N' H' fa' lt1' lt2'; (try k_lt lt2'); (try k_lt2 lt1'); k_sweep))
local macro_rules | `(tactic| walk_at "kc_M11") => `(tactic| (first | exact pM11 _ _ _ _ _ _ _ (by first | with_reducible assumption | omega | exact fm_lo _ | exact fm_hi _) (by first | with_reducible assumption | omega | exact fm_lo _ | exact fm_hi _) (by first | with_reducible assumption | omega | exact fm_lo _ | exact fm_hi _) (by first | with_reducible assumption | omega | exact fm_lo _ | exact fm_hi _) (by first | with_reducible assumption | omega | exact fm_lo _ | exact fm_hi _) (by first | with_reducible assumption | omega | exact fm_lo _ | exact fm_hi _) (by first | with_reducible assumption | omega | exact fm_lo _ | exact fm_hi _) | exact hM11 _ _ _ _ _ (by first | with_reducible assumption | omega | exact fm_lo _ | exact fm_hi _) (by first | with_reducible assumption | omega | exact fm_lo _ | exact fm_hi _) (by first | with_reducible assumption | omega | exact fm_lo _ | exact fm_hi _) (by first | with_reducible assumption | omega | exact fm_lo _ | exact fm_hi _) | exact sM11 _ _ _ _ _ (by first | with_reducible assumption | omega | exact fm_lo _ | exact fm_hi _) (by first | with_reducible assumption | omega | exact fm_lo _ | exact fm_hi _) (by first | with_reducible assumption | omega | exact fm_lo _ | exact fm_hi _) (by first | with_reducible assumption | omega | exact fm_lo _ | exact fm_hi _)))
local macro_rules | `(tactic| walk_at "call ref cons") => `(tactic| (k_here; (with_reducible show wpAny _ _ (call (Value.ref 1036) [Value.ref 653] _) _ _ _); refine' addrGo ?kC ?k1 ?k2 ?k3 ?k4 ?k5 ?kA ?kF ?kK ?kR ?_; k_dflt ((case k2 => k_asm); (case k3 => k_asm); (case k4 => k_asm); (case kC => walk_at "kc_M11"); (case k1 => k_asm); (case k5 => k_asm); (case kA => first | with_reducible assumption | exact Around.frames_deeper (Below.stack (by with_reducible assumption)) | exact rfl); (case kF => first | with_reducible assumption | exact rfl); (case kK => first | with_reducible assumption | exact rfl); (case kR => first | assumption | exact Room.le (by assumption) (by omega)); k_whole); intro x' d' es' n' al' h' tk' F' N' H' fa' lt1' lt2'; (try k_lt lt2'); (try k_lt2 lt1'); k_sweep))
local macro_rules | `(tactic| walk_at "kc_M29") => `(tactic| (first | exact pM29 _ _ _ _ _ _ _ (by first | with_reducible assumption | omega | exact fm_lo _ | exact fm_hi _) (by first | with_reducible assumption | omega | exact fm_lo _ | exact fm_hi _) (by first | with_reducible assumption | omega | exact fm_lo _ | exact fm_hi _) (by first | with_reducible assumption | omega | exact fm_lo _ | exact fm_hi _) (by first | with_reducible assumption | omega | exact fm_lo _ | exact fm_hi _) (by first | with_reducible assumption | omega | exact fm_lo _ | exact fm_hi _) | exact hM29 _ _ _ _ _ _ _ (by first | with_reducible assumption | omega | exact fm_lo _ | exact fm_hi _) (by first | with_reducible assumption | omega | exact fm_lo _ | exact fm_hi _) (by first | with_reducible assumption | omega | exact fm_lo _ | exact fm_hi _) (by first | with_reducible assumption | omega | exact fm_lo _ | exact fm_hi _) (by first | with_reducible assumption | omega | exact fm_lo _ | exact fm_hi _) (by first | with_reducible assumption | omega | exact fm_lo _ | exact fm_hi _)))
local macro_rules | `(tactic| walk_at "call ref cons") => `(tactic| (k_here; (with_reducible show wpAny _ _ (call (Value.ref 1036) [Value.ref 655] _) _ _ _); refine' addrGo ?kC ?k1 ?k2 ?k3 ?k4 ?k5 ?kA ?kF ?kK ?kR ?_; k_dflt ((case k2 => k_asm); (case k3 => k_asm); (case k4 => k_asm); (case kC => walk_at "kc_M29"); (case k1 => k_asm); (case k5 => k_asm); (case kA => first | with_reducible assumption | exact Around.frames_deeper (Below.stack (by with_reducible assumption)) | exact rfl); (case kF => first | with_reducible assumption | exact rfl); (case kK => first | with_reducible assumption | exact rfl); (case kR => first | assumption | exact Room.le (by assumption) (by omega)); k_whole); intro x' d' es' n' al' h' tk' F' N' H' fa' lt1' lt2'; (try k_lt lt2'); (try k_lt2 lt1'); k_sweep))
local macro_rules | `(tactic| walk_at "call ref cons") => `(tactic| (k_here; (with_reducible show wpAny _ _ (call (Value.ref 1141) [Value.ref _, Value.ref _] []) _ _ _); refine' asymGo ?kC ?k1 ?k2 ?k3 ?k4 ?k5 ?kA ?kF ?kK ?kR ?_; k_dflt ((case k2 => k_asm); (case k3 => k_asm); (case k4 => k_asm); (case kC => refine' newAsym _ _ _ _ ?c1 ?c2 ?c3 ?c4; (case c1 => exact Inst.more (HalfTx.i (by with_reducible assumption)) (by (intro q hq; repeat (first | with_reducible_and_instances assumption | refine List.Mem.tail _ ?_)))); (case c2 => exact Inst.more (HalfRx.i (by with_reducible assumption)) (by (intro q hq; repeat (first | with_reducible_and_instances assumption | refine List.Mem.tail _ ?_)))); (case c3 => exact Off.more (HalfTx.so (by with_reducible assumption)) (by (intro q hq; repeat (first | with_reducible_and_instances assumption | refine List.Mem.tail _ ?_))) (Nat.le_refl _)); (case c4 => exact Off.more (HalfRx.ro (by with_reducible assumption)) (by (intro q hq; repeat (first | with_reducible_and_instances assumption | refine List.Mem.tail _ ?_))) (Nat.le_refl _))); (case k1 => k_asm); (case k5 => k_asm); (case kA => first | with_reducible assumption | exact Around.frames_deeper (Below.stack (by with_reducible assumption)) | exact rfl); (case kF => first | with_reducible assumption | exact rfl); (case kK => first | with_reducible assumption | exact rfl); (case kR => first | assumption | exact Room.le (by assumption) (by omega)); k_whole); intro x' d' es' n' h' tk' F' N' H' lt1' lt2'; (try k_lt lt2'); (try k_lt2 lt1'); k_sweep))
local macro_rules | `(tactic| walk_at "call ref nil") => `(tactic| (k_here; (with_reducible show wpAny _ _ (call (Value.ref 1163) [] _) _ _ _); refine' msgGo ?k1 ?k2 ?k3 ?k4 ?k5 ?kA ?kF ?kK ?kR ?_; k_dflt ((case k2 => k_asm); (case k3 => k_asm); (case k4 => k_asm); (case k1 => k_asm); (case k5 => k_asm); (case kA => first | with_reducible assumption | exact Around.frames_deeper (Below.stack (by with_reducible assumption)) | exact rfl); (case kF => first | with_reducible assumption | exact rfl); (case kK => first | with_reducible assumption | exact rfl); (case kR => first | assumption | exact Room.le (by assumption) (by omega)); k_whole); intro x' d' h' tk' F' N' lt1' lt2'; (try k_lt lt2'); (try k_lt2 lt1'); k_sweep))
local macro_rules | `(tactic| walk_at "exec Assign cons Tuple") => `(tactic| (k_here; (with_reducible show wpAny _ _ (exec (Stmt.Assign [Expr.Tuple [Expr.Name _ _, Expr.Name _ _] _ _] (Expr.Tuple _ _ _) _) _) _ _ _); refine' asg2 ?_ ?hs ?hw; k_dflt ((case hs => exact rfl); (case hw => exact rfl); k_whole)))
local macro_rules | `(tactic| walk_at "exec Assign cons Tuple") => `(tactic| (k_here; (with_reducible show wpAny _ _ (exec (Stmt.Assign [Expr.Tuple [Expr.Name _ _, Expr.Name _ _, Expr.Name _ _] _ _] (Expr.Tuple _ _ _) _) _) _ _ _); refine' asg3 ?_ ?hs ?hw; k_dflt ((case hs => exact rfl); (case hw => exact rfl); k_whole)))
local macro_rules | `(tactic| walk_at "unpackItems ref") => `(tactic| (k_here; refine' unpackItemsN_ ?k1 ?k2 ?k3 ?k4 ?k5 ?_; k_dflt ((case k1 => k_asm); (case k2 => k_asm); (case k3 => kun_tup); (case k4 => first | exact Room.h (by assumption) | exact rfl); (case k5 => exact rfl); k_whole); intro h' F' N'; (try simp only [List.reverse_cons, List.reverse_nil, List.nil_append, List.cons_append]); (try k_sweep)))
local macro_rules | `(tactic| walk_at "assign Tuple") => `(tactic| (k_here; (with_reducible show wpAny _ _ (assign (Expr.Tuple _ _ _) _ (Value.ref _)) _ _ _); refine' unpackN_ ?k1 ?k2 ?k3 ?k4 ?k5 ?k6 ?_; k_dflt ((case k1 => k_asm); (case k2 => k_asm); (case k3 => kun_tup); (case k4 => first | exact Room.h (by assumption) | exact rfl); (case k5 => exact rfl); (case k6 => exact rfl); k_whole); intro h' F' N'; (try k_sweep)))
local macro_rules | `(tactic| walk_at "call ref cons") => `(tactic| (k_here; (with_reducible show wpAny _ _ (call (Value.ref 1185) [Value.int _ _, Value.ref _, Value.ref _]) _ _ _); refine' pairGo (by with_reducible assumption) ?ka ?kb ?k1 ?k2 ?k3 ?k4 ?k5 ?kA ?kF ?kK ?kR ?kT ?kq ?kp ?kl ?_; k_dflt ((case k2 => k_asm); (case k3 => k_asm); (case k4 => first | k_asm | exact news_tl (by k_asm) | exact news_tl (news_tl (by k_asm)) | exact news_tl (news_tl (news_tl (by k_asm)))); (case kT => with_reducible assumption); (case k1 => k_asm); (case k5 => k_asm); (case kA => first | with_reducible assumption | exact Around.frames_deeper (Below.stack (by with_reducible assumption)) | exact rfl); (case kF => first | with_reducible assumption | exact rfl); (case kK => first | with_reducible assumption | exact rfl); (case kR => assumption); (case ka => omega); (case kb => omega); (case kq => omega); (case kp => omega); (case kl => with_reducible assumption); k_whole); intro wide' num' ans' fur' o1' o2' x1' x2' la' lb' tup' rest' t' tn' ta' h' tk' kok' pr' hs' hl' F' N'; k_sweep))
local macro_rules | `(tactic| walk_at "call type:list") => `(tactic| (k_here; (with_reducible show wpAny _ _ (call (Value.type "list") [Value.bytes _ _]) _ _ _); k_dflt (first | (refine' list_nil_b ?kh ?k1 ?k2 ?_; (case k1 => k_asm); (case k2 => k_asm); (case kh => first | exact Room.h (by assumption) | exact rfl); k_whole; intro D' c' h' tk' F' N' l1) | (refine' list_one_b ?kh ?h0 ?h1 ?k1 ?k2 ?_; (case k1 => k_asm); (case k2 => k_asm); (case kh => first | exact Room.h (by assumption) | exact rfl); (case h0 => omega); (case h1 => omega); k_whole; intro D' c' u' h' tk' F' N' l1)); (try k_lt l1); k_sweep))
local macro_rules | `(tactic| walk_at "subscriptTail Name Constant ref int") => `(tactic| (k_here; (with_reducible show wpAny _ _ (subscriptTail _ _ (Value.ref _) (Value.int _ _)) _ _ _); (with_unfolding_all refine' item_litK ?k1 ?k2 ?k3 ?k4 ?_ ?k6; (case k1 => first | exact one_isList (by k_asm) (by k_mem) | is_list); (case k2 => decide); (case k3 => decide); (case k4 => rfl); (case k6 => with_unfolding_all rfl); k_whole)))
local macro_rules | `(tactic| walk_at "subscriptTail") => `(tactic| (k_here; (with_reducible show wpAny _ _ (subscriptTail _ (Expr.Name (Str.ofString "way") _) (Value.ref _) (Value.int _ _)) _ _ _); focus ((refine' item4 ?k1 ?k2 ?k3 ?k4 ?q0 ?q1 ?q2 ?q3 ?k5; k_dflt ((case k1 => k_asm); (case k2 => k_mem); (case k3 => assumption); (case k4 => assumption); (case k5 => exact rfl))); all_goals (intro hk'; subst hk'; k_whole))))
local macro_rules | `(tactic| walk_at "callWith ref") => `(tactic| (k_here; (with_reducible show wpAny _ _ (callWith _ (Value.ref 1036) _ _ (backToKw _ (keywordEach (_ :: _) _))) _ _ _); refine' cwKW ?k1 ?k2 ?k3 ?k4 ?k5 ?_; k_dflt ((case k1 => k_asm); (case k2 => k_is); (case k3 => kernel_rfl); (case k4 => kernel_rfl); (case k5 => exact rfl); k_whole)))
local macro_rules | `(tactic| walk_at "call type:bytes") => `(tactic| (k_here; (with_reducible show wpAny _ _ (call (Value.type "bytes") [Value.ref _]) _ _ _); refine' bytesGo ?k1 ?k2 ?k3 ?k4 ?k5 ?k6 ?k7 ?_; k_dflt ((case k1 => k_asm); (case k2 => k_asm); (case k3 => k_mem); (case k4 => with_reducible assumption); (case k5 => with_reducible assumption); (case k6 => with_reducible assumption); (case k7 => first | exact Room.h (by assumption) | exact rfl); k_whole); intro h' t' tk' F' N'; k_sweep))
local macro_rules | `(tactic| walk_at "compareOp Eq ref ref") => `(tactic| (k_here; (with_reducible show wpAny _ _ (compareOp CmpOp.Eq (Value.ref _) (Value.ref _)) _ _ _); refine' eqGo ?k1 ?k2 ?k3 ?k4 ?k5 ?k6 ?_; k_dflt ((case k1 => k_asm); (case k2 => k_mem); (case k4 => k_mem); (case k3 => first | with_reducible assumption | exact .nil | exact .cons _ _ .nil); (case k5 => first | with_reducible assumption | exact .nil | exact .cons _ _ .nil); (case k6 => exact lawA_units _ _ _); k_whole)))
local macro_rules | `(tactic| walk_at "eval Call Attribute cons nil") => `(tactic| (k_here; (with_reducible show wpAny _ _ (eval (Expr.Call (Expr.Attribute _ (Str.ofString "is_for_me") _) [Expr.Name (Str.ofString "message") _] [] _) _) _ _ _); refine' offMe ?kO ?y1 ?y2 ?y3 ?y4 ?y5 ?ks ?k1 ?k2 ?k3 ?k4 ?k5 ?kA ?kF ?kK ?kR ?kev ?kz ?_ ?kk ?kx ?ky ?kd; k_dflt ((case k2 => k_asm); (case k3 => k_asm); (case k4 => k_asm); (case kev => (refine' evName ?e1 ?e2 ?e3 ?e4 ?e5; (case e1 => k_asm); (case e2 => first | with_reducible assumption | (repeat' (first | with_reducible exact up_eq | with_reducible refine up_k (by kernel_rfl) ?_ | with_reducible assumption))); (case e3 => exact rfl); (case e4 => first | with_reducible assumption | kernel_rfl); (case e5 => first | with_reducible assumption | kernel_rfl))); (case kz => first | with_reducible assumption | (repeat' (first | with_reducible exact up_eq | with_reducible refine up_k (by kernel_rfl) ?_ | with_reducible assumption))); (case kO => with_reducible assumption); (case y1 => k_mem); (case y2 => k_mem); (case y3 => with_reducible assumption); (case y4 => with_reducible assumption); (case y5 => with_reducible assumption); (case ks => (intro q hq; repeat (first | with_reducible_and_instances assumption | refine List.Mem.tail _ ?_))); (case k1 => k_asm); (case k5 => k_asm); (case kA => first | with_reducible assumption | exact Around.frames_deeper (Below.stack (by with_reducible assumption)) | exact rfl); (case kF => first | with_reducible assumption | exact rfl); (case kK => first | with_reducible assumption | exact rfl); (case kR => assumption); (case kk => exact rfl); (case kx => first | with_reducible assumption | kernel_rfl); (case ky => first | with_reducible assumption | kernel_rfl); (case kd => exact rfl); k_whole); intro v' h' tk' hp' F' N'; (k_dflt (replace hp' : v' = _ := hp'; subst hp')); k_sweep))
local macro_rules | `(tactic| walk_at "ite") => `(tactic| (k_dflt (refine PySem.W.ite_neg (bne_no (by first | exact due3t (by assumption) (by assumption) | exact due1 (by assumption) | exact due2 (by assumption) | exact due3n (by assumption) (by assumption) | exact due3s (by assumption) (by assumption) (by assumption))) ?_)))
local macro_rules | `(tactic| walk_at "callWith ref") => `(tactic| (k_here; (with_reducible show wpAny _ _ (callWith _ (Value.ref 1163) _ _ (backToKw _ (keywordEach (_ :: _) _))) _ _ _); refine' cwKW0 ?k1 ?k2 ?k3 ?k4 ?_; k_dflt ((case k1 => k_asm); (case k2 => k_is); (case k3 => kernel_rfl); (case k4 => kernel_rfl); k_whole)))

theorem kFill (w : World) (h : Heap) : (KF w.params).In h → PySem.Challenge.rw_ff0002_01.row.prog = PySem.Challenge.rw_ff0002_01.row.prog → True := by
  k_fill
  exact fun _ _ => trivial
theorem pairPre {w : World} {A A₀ : Around} {E : Value → Shared → Prop} {hp : Heap} {gs : Array GenState} {dr : Drawn} {tk₀ : Nat} {os : OsState} {h₀ base : Heap} {L : Addr} {m mg mb : Str → Option Value} {p : Program} {loose : List Str} {mean : ExcName → Option Value} {env : Env} {outer : List Env} {rest : Led} {j n : Nat} {told lat : Addr} {ns : List Int} {q kind : Int} {tk tkd : Tok} {Q : Flow → Shared → Prop} (D : Draws w rest told lat ns n) (B : Below A₀ base outer h₀) (F : Fr h₀ L hp m) (X : (KF w.params).In h₀) (N : News h₀ L hp ((lat, listOf #[.int q tk] n) :: rest)) (T : Top p loose mean mg mb h₀) (hA : A.frames = some (env :: outer)) (hf : env.frame = some L) (hke : env.scope.kind = .function) (R : Room A (j + 8))
    (hT : Told h₀ rest told ns) (hq : 0 ≤ q) (hq' : q ≤ 50) (hm1 : m (Str.ofString "kind") = some (.int kind tkd)) (hm2 : m (Str.ofString "told") = some (.ref told)) (hm3 : m (Str.ofString "at") = some (.ref lat))
    (h : ∀ (a b t o e : Int) (ta tb tt to te tk' : Tok) (h' : Heap) (m' : Str → Option Value) (tk'' : Nat), 1 ≤ a → a ≤ 40 → 50 ≤ b → b ≤ 89 → 0 ≤ t → t ≤ 249 → 0 ≤ o → o ≤ 249 → 0 ≤ e → e ≤ 255 → Fr h₀ L h' m' → News h₀ L h' ((lat, listOf #[.int (q + 5) tk'] n) :: rest) →
      m' (Str.ofString "kind") = some (.int kind tkd) → m' (Str.ofString "first") = some (.int a ta) → m' (Str.ofString "second") = some (.int b tb) → m' (Str.ofString "one") = some (.int t tt) → m' (Str.ofString "other") = some (.int o to) → m' (Str.ofString "extension") = some (.int e te) → wpAny (model PySem.Challenge.rw_ff0002_01.row.prog w) A (execs tlP2 (envOf (Str.ofString "_law_pair") sc1185 L 1185 (.ref 1184))) Q E ⟨h', gs, dr, tk'', os⟩) :
    wpAny (model PySem.Challenge.rw_ff0002_01.row.prog w) A (execs bd1185 (envOf (Str.ofString "_law_pair") sc1185 L 1185 (.ref 1184))) Q E ⟨hp, gs, dr, tk₀, os⟩ := by
  rw [sgP0_eq]
  have R1 : Room A (j + 7 + 1) := R
  w_top off
  repeat' (first | (k_unfold; (try dsimp only)) | walk1 | (dsimp only; walk1) | (leave1; try dsimp only))
  
  refine' h _ _ _ _ _ _ _ _ _ _ _ _ _ _ ?b0 ?b1 ?b2 ?b3 ?b4 ?b5 ?b6 ?b7 ?b8 ?b9 ?F ?nn ?f0 ?f1 ?f2 ?f3 ?f4 ?f5
  case F => k_asm
  case nn =>
    rw [show q + 5 = q + 1 + 1 + 1 + 1 + 1 by omega]
    first | k_asm | exact news_tl (by k_asm) | exact news_tl (news_tl (by k_asm))
  case f0 => first | with_reducible assumption | ((repeat (refine up_n (by decide +kernel) ?_)); first | exact up_eq | with_reducible assumption)
  case f1 => first | with_reducible assumption | ((repeat (refine up_n (by decide +kernel) ?_)); first | exact up_eq | with_reducible assumption)
  case f2 => first | with_reducible assumption | ((repeat (refine up_n (by decide +kernel) ?_)); first | exact up_eq | with_reducible assumption)
  case f3 => first | with_reducible assumption | ((repeat (refine up_n (by decide +kernel) ?_)); first | exact up_eq | with_reducible assumption)
  case f4 => first | with_reducible assumption | ((repeat (refine up_n (by decide +kernel) ?_)); first | exact up_eq | with_reducible assumption)
  case f5 => first | with_reducible assumption | ((repeat (refine up_n (by decide +kernel) ?_)); first | exact up_eq | with_reducible assumption)
  all_goals omega

theorem pairK0 {w : World} {A A₀ : Around} {E : Value → Shared → Prop} {hp : Heap} {gs : Array GenState} {dr : Drawn} {tk₀ : Nat} {os : OsState} {h₀ base : Heap} {L : Addr} {m mg mb : Str → Option Value} {p : Program} {loose : List Str} {mean : ExcName → Option Value} {env : Env} {outer : List Env} {rest : Led} {j n : Nat} {told lat : Addr} {ns : List Int} {q a b t o e : Int} {tk tkd ta tb tt to te : Tok} {Q : Flow → Shared → Prop} (B : Below A₀ base outer h₀) (F : Fr h₀ L hp m) (X : (KF w.params).In h₀) (N : News h₀ L hp ((lat, listOf #[.int q tk] n) :: rest)) (T : Top p loose mean mg mb h₀) (hA : A.frames = some (env :: outer)) (hf : env.frame = some L) (hke : env.scope.kind = .function) (R : Room A (j + 8))
    (hlat : ∀ x ∈ rest, x.1 ≠ lat) (hm0 : m (Str.ofString "kind") = some (.int 0 tkd)) (hm1 : m (Str.ofString "first") = some (.int a ta)) (hm2 : m (Str.ofString "second") = some (.int b tb)) (hm3 : m (Str.ofString "one") = some (.int t tt)) (hm4 : m (Str.ofString "other") = some (.int o to)) (hm5 : m (Str.ofString "extension") = some (.int e te)) (hb0 : 1 ≤ a) (hb1 : a ≤ 40) (hb2 : 50 ≤ b) (hb3 : b ≤ 89) (hb4 : 0 ≤ t) (hb5 : t ≤ 249) (hb6 : 0 ≤ o) (hb7 : o ≤ 249) (hb8 : 0 ≤ e) (hb9 : e ≤ 255)
    (h : ∀ (wide : Bool) (num ans fur : Int) (o1 o2 : Option Int) (x1 x2 la lb tup : Addr) (rest' : Led) (t' tn ta : Tok) h' m' tk', KindOk 0 wide num ans fur o1 o2 → PairRes w rest' wide num ans fur o1 o2 x1 x2 la lb → (∀ x ∈ rest, x ∈ rest') → (∀ x ∈ rest', x.1 ≠ lat) → Fr h₀ L h' m' →
      News h₀ L h' ((tup, { cls := .type "tuple", data := .seq #[.ref x1, .ref x2, .ref la, .int num tn, .ref lb, .int ans ta, .bool wide] }) :: (lat, listOf #[.int q t'] n) :: rest') → Q (.ret (.ref tup)) ⟨h', gs, dr, tk', os⟩) :
    wpAny (model PySem.Challenge.rw_ff0002_01.row.prog w) A (execs tlP2 (envOf (Str.ofString "_law_pair") sc1185 L 1185 (.ref 1184))) Q E ⟨hp, gs, dr, tk₀, os⟩ := by
  rw [sgP2_eq]
  have hp0 : 0 ≤ a := by omega
  have hp1 : 0 ≤ b := by omega
  have hp2 : a ≠ b := by omega
  have hp3 : b ≠ a := by omega
  have hp4 : a ≤ 2047 := by omega
  have hp5 : b ≤ 2047 := by omega
  w_top off
  repeat' (first | (k_unfold; (try dsimp only)) | walk1 | (dsimp only; walk1) | (leave1; try dsimp only))
  
  rename_i x1 d1 es1 n1 al1 ha1 tka1 H1 fa1 lta1 ltb1 x2 d2 es2 n2 al2 ha2 tka2 H2 fa2 lta2 ltb2 la hla lla lb hlb FB NB llb hh FF NN
  refine' h false a b 0 none none x1 x2 la lb _ ((lb, _) :: (la, _) :: (x2, _) :: (d2, _) :: (x1, _) :: (d1, _) :: rest) _ _ _ _ _ _ ?k ?r ?s ?l FF ?nn
  case nn =>
    refine' news_sub NN ?_
    refine' List.forall_mem_cons.mpr ⟨?a, List.forall_mem_cons.mpr ⟨?b, List.forall_mem_cons.mpr ⟨?c, List.forall_mem_cons.mpr ⟨?d, List.forall_mem_cons.mpr ⟨?e, List.forall_mem_cons.mpr ⟨?f, List.forall_mem_cons.mpr ⟨?g, List.forall_mem_cons.mpr ⟨?h, ?_⟩⟩⟩⟩⟩⟩⟩⟩
    case a => k_mem
    case b => k_mem
    case c => k_mem
    case d => k_mem
    case e => k_mem
    case f => k_mem
    case g => k_mem
    case h => k_mem
    intro q hq
    repeat (first | with_reducible_and_instances assumption | refine List.Mem.tail _ ?_)
  case k => constructor <;> omega
  case r => 
    refine ⟨?_, ?_, ?_, ?_, ⟨0, _, .tail _ (.head _)⟩, ⟨0, _, .head _⟩⟩
    · exact tx_cast (show a = a + 0 by omega) (tx_N11 (.tail _ (.tail _ (.tail _ (.tail _ (.head _))))) (.tail _ (.tail _ (.tail _ (.tail _ (.tail _ (.head _)))))) H1 fa1)
    · exact rx_cast (show b = b + 0 by omega) (rx_N11 (.tail _ (.tail _ (.tail _ (.tail _ (.head _))))) (.tail _ (.tail _ (.tail _ (.tail _ (.tail _ (.head _)))))) H1 fa1)
    · exact tx_cast (show b = b + 0 by omega) (tx_N11 (.tail _ (.tail _ (.head _))) (.tail _ (.tail _ (.tail _ (.head _)))) H2 fa2)
    · exact rx_cast (show a = a + 0 by omega) (rx_N11 (.tail _ (.tail _ (.head _))) (.tail _ (.tail _ (.tail _ (.head _)))) H2 fa2)
  case s => exact fun q hq => .tail _ (.tail _ (.tail _ (.tail _ (.tail _ (.tail _ hq)))))
  case l =>
    refine List.forall_mem_cons.mpr ⟨?_, List.forall_mem_cons.mpr ⟨?_, List.forall_mem_cons.mpr ⟨?_, List.forall_mem_cons.mpr ⟨?_, List.forall_mem_cons.mpr ⟨?_, List.forall_mem_cons.mpr ⟨?_, hlat⟩⟩⟩⟩⟩⟩ <;> k_ne

theorem pairK1 {w : World} {A A₀ : Around} {E : Value → Shared → Prop} {hp : Heap} {gs : Array GenState} {dr : Drawn} {tk₀ : Nat} {os : OsState} {h₀ base : Heap} {L : Addr} {m mg mb : Str → Option Value} {p : Program} {loose : List Str} {mean : ExcName → Option Value} {env : Env} {outer : List Env} {rest : Led} {j n : Nat} {told lat : Addr} {ns : List Int} {q a b t o e : Int} {tk tkd ta tb tt to te : Tok} {Q : Flow → Shared → Prop} (B : Below A₀ base outer h₀) (F : Fr h₀ L hp m) (X : (KF w.params).In h₀) (N : News h₀ L hp ((lat, listOf #[.int q tk] n) :: rest)) (T : Top p loose mean mg mb h₀) (hA : A.frames = some (env :: outer)) (hf : env.frame = some L) (hke : env.scope.kind = .function) (R : Room A (j + 8))
    (hlat : ∀ x ∈ rest, x.1 ≠ lat) (hm0 : m (Str.ofString "kind") = some (.int 1 tkd)) (hm1 : m (Str.ofString "first") = some (.int a ta)) (hm2 : m (Str.ofString "second") = some (.int b tb)) (hm3 : m (Str.ofString "one") = some (.int t tt)) (hm4 : m (Str.ofString "other") = some (.int o to)) (hm5 : m (Str.ofString "extension") = some (.int e te)) (hb0 : 1 ≤ a) (hb1 : a ≤ 40) (hb2 : 50 ≤ b) (hb3 : b ≤ 89) (hb4 : 0 ≤ t) (hb5 : t ≤ 249) (hb6 : 0 ≤ o) (hb7 : o ≤ 249) (hb8 : 0 ≤ e) (hb9 : e ≤ 255)
    (h : ∀ (wide : Bool) (num ans fur : Int) (o1 o2 : Option Int) (x1 x2 la lb tup : Addr) (rest' : Led) (t' tn ta : Tok) h' m' tk', KindOk 1 wide num ans fur o1 o2 → PairRes w rest' wide num ans fur o1 o2 x1 x2 la lb → (∀ x ∈ rest, x ∈ rest') → (∀ x ∈ rest', x.1 ≠ lat) → Fr h₀ L h' m' →
      News h₀ L h' ((tup, { cls := .type "tuple", data := .seq #[.ref x1, .ref x2, .ref la, .int num tn, .ref lb, .int ans ta, .bool wide] }) :: (lat, listOf #[.int q t'] n) :: rest') → Q (.ret (.ref tup)) ⟨h', gs, dr, tk', os⟩) :
    wpAny (model PySem.Challenge.rw_ff0002_01.row.prog w) A (execs tlP2 (envOf (Str.ofString "_law_pair") sc1185 L 1185 (.ref 1184))) Q E ⟨hp, gs, dr, tk₀, os⟩ := by
  rw [sgP2_eq]
  have hp0 : 0 ≤ (a * 5000000) := by omega
  have hp1 : 0 ≤ (b * 2000001) := by omega
  have hp2 : (a * 5000000) ≠ (b * 2000001) := wide_ne hb2 hb3
  have hp3 : (b * 2000001) ≠ (a * 5000000) := (wide_ne hb2 hb3).symm
  w_top off
  repeat' (first | (k_unfold; (try dsimp only)) | walk1 | (dsimp only; walk1) | (leave1; try dsimp only))
  
  rename_i x1 d1 es1 n1 al1 ha1 tka1 H1 fa1 lta1 ltb1 x2 d2 es2 n2 al2 ha2 tka2 H2 fa2 lta2 ltb2 la hla lla lb hlb FB NB llb hh FF NN
  refine' h true (a * 5000000) (b * 2000001) 0 none none x1 x2 la lb _ ((lb, _) :: (la, _) :: (x2, _) :: (d2, _) :: (x1, _) :: (d1, _) :: rest) _ _ _ _ _ _ ?k ?r ?s ?l FF ?nn
  case nn =>
    refine' news_sub NN ?_
    refine' List.forall_mem_cons.mpr ⟨?a, List.forall_mem_cons.mpr ⟨?b, List.forall_mem_cons.mpr ⟨?c, List.forall_mem_cons.mpr ⟨?d, List.forall_mem_cons.mpr ⟨?e, List.forall_mem_cons.mpr ⟨?f, List.forall_mem_cons.mpr ⟨?g, List.forall_mem_cons.mpr ⟨?h, ?_⟩⟩⟩⟩⟩⟩⟩⟩
    case a => k_mem
    case b => k_mem
    case c => k_mem
    case d => k_mem
    case e => k_mem
    case f => k_mem
    case g => k_mem
    case h => k_mem
    intro q hq
    repeat (first | with_reducible_and_instances assumption | refine List.Mem.tail _ ?_)
  case k => constructor <;> omega
  case r => 
    refine ⟨?_, ?_, ?_, ?_, ⟨0, _, .tail _ (.head _)⟩, ⟨0, _, .head _⟩⟩
    · exact tx_cast (show (a * 5000000) = (a * 5000000) + 0 by omega) (tx_N29 (.tail _ (.tail _ (.tail _ (.tail _ (.head _))))) (.tail _ (.tail _ (.tail _ (.tail _ (.tail _ (.head _)))))) H1 fa1)
    · exact rx_cast (show (b * 2000001) = (b * 2000001) + 0 by omega) (rx_N29 (.tail _ (.tail _ (.tail _ (.tail _ (.head _))))) (.tail _ (.tail _ (.tail _ (.tail _ (.tail _ (.head _)))))) H1 fa1)
    · exact tx_cast (show (b * 2000001) = (b * 2000001) + 0 by omega) (tx_N29 (.tail _ (.tail _ (.head _))) (.tail _ (.tail _ (.tail _ (.head _)))) H2 fa2)
    · exact rx_cast (show (a * 5000000) = (a * 5000000) + 0 by omega) (rx_N29 (.tail _ (.tail _ (.head _))) (.tail _ (.tail _ (.tail _ (.head _)))) H2 fa2)
  case s => exact fun q hq => .tail _ (.tail _ (.tail _ (.tail _ (.tail _ (.tail _ hq)))))
  case l =>
    refine List.forall_mem_cons.mpr ⟨?_, List.forall_mem_cons.mpr ⟨?_, List.forall_mem_cons.mpr ⟨?_, List.forall_mem_cons.mpr ⟨?_, List.forall_mem_cons.mpr ⟨?_, List.forall_mem_cons.mpr ⟨?_, hlat⟩⟩⟩⟩⟩⟩ <;> k_ne

theorem pairK2 {w : World} {A A₀ : Around} {E : Value → Shared → Prop} {hp : Heap} {gs : Array GenState} {dr : Drawn} {tk₀ : Nat} {os : OsState} {h₀ base : Heap} {L : Addr} {m mg mb : Str → Option Value} {p : Program} {loose : List Str} {mean : ExcName → Option Value} {env : Env} {outer : List Env} {rest : Led} {j n : Nat} {told lat : Addr} {ns : List Int} {q a b t o e : Int} {tk tkd ta tb tt to te : Tok} {Q : Flow → Shared → Prop} (B : Below A₀ base outer h₀) (F : Fr h₀ L hp m) (X : (KF w.params).In h₀) (N : News h₀ L hp ((lat, listOf #[.int q tk] n) :: rest)) (T : Top p loose mean mg mb h₀) (hA : A.frames = some (env :: outer)) (hf : env.frame = some L) (hke : env.scope.kind = .function) (R : Room A (j + 8))
    (hlat : ∀ x ∈ rest, x.1 ≠ lat) (hm0 : m (Str.ofString "kind") = some (.int 2 tkd)) (hm1 : m (Str.ofString "first") = some (.int a ta)) (hm2 : m (Str.ofString "second") = some (.int b tb)) (hm3 : m (Str.ofString "one") = some (.int t tt)) (hm4 : m (Str.ofString "other") = some (.int o to)) (hm5 : m (Str.ofString "extension") = some (.int e te)) (hb0 : 1 ≤ a) (hb1 : a ≤ 40) (hb2 : 50 ≤ b) (hb3 : b ≤ 89) (hb4 : 0 ≤ t) (hb5 : t ≤ 249) (hb6 : 0 ≤ o) (hb7 : o ≤ 249) (hb8 : 0 ≤ e) (hb9 : e ≤ 255)
    (h : ∀ (wide : Bool) (num ans fur : Int) (o1 o2 : Option Int) (x1 x2 la lb tup : Addr) (rest' : Led) (t' tn ta : Tok) h' m' tk', KindOk 2 wide num ans fur o1 o2 → PairRes w rest' wide num ans fur o1 o2 x1 x2 la lb → (∀ x ∈ rest, x ∈ rest') → (∀ x ∈ rest', x.1 ≠ lat) → Fr h₀ L h' m' →
      News h₀ L h' ((tup, { cls := .type "tuple", data := .seq #[.ref x1, .ref x2, .ref la, .int num tn, .ref lb, .int ans ta, .bool wide] }) :: (lat, listOf #[.int q t'] n) :: rest') → Q (.ret (.ref tup)) ⟨h', gs, dr, tk', os⟩) :
    wpAny (model PySem.Challenge.rw_ff0002_01.row.prog w) A (execs tlP2 (envOf (Str.ofString "_law_pair") sc1185 L 1185 (.ref 1184))) Q E ⟨hp, gs, dr, tk₀, os⟩ := by
  rw [sgP2_eq]
  have hp0 : t ≤ 255 := by omega
  have hp1 : o ≤ 255 := by omega
  w_top off
  repeat' (first | (k_unfold; (try dsimp only)) | walk1 | (dsimp only; walk1) | (leave1; try dsimp only))
  
  rename_i x1 d1 es1 n1 al1 ha1 tka1 H1 fa1 lta1 ltb1 x2 d2 es2 n2 al2 ha2 tka2 H2 fa2 lta2 ltb2 la hla lla lb hlb FB NB llb hh FF NN
  refine' h true (416940032 + 256 * t + o) (416940032 + 256 * o + t) 65536 none none x1 x2 la lb _ ((lb, _) :: (la, _) :: (x2, _) :: (d2, _) :: (x1, _) :: (d1, _) :: rest) _ _ _ _ _ _ ?k ?r ?s ?l FF ?nn
  case nn =>
    refine' news_sub NN ?_
    refine' List.forall_mem_cons.mpr ⟨?a, List.forall_mem_cons.mpr ⟨?b, List.forall_mem_cons.mpr ⟨?c, List.forall_mem_cons.mpr ⟨?d, List.forall_mem_cons.mpr ⟨?e, List.forall_mem_cons.mpr ⟨?f, List.forall_mem_cons.mpr ⟨?g, List.forall_mem_cons.mpr ⟨?h, ?_⟩⟩⟩⟩⟩⟩⟩⟩
    case a => k_mem
    case b => k_mem
    case c => k_mem
    case d => k_mem
    case e => k_mem
    case f => k_mem
    case g => k_mem
    case h => k_mem
    intro q hq
    repeat (first | with_reducible_and_instances assumption | refine List.Mem.tail _ ?_)
  case k => constructor <;> omega
  case r => 
    refine ⟨?_, ?_, ?_, ?_, ⟨0, _, .tail _ (.head _)⟩, ⟨0, _, .head _⟩⟩
    · exact tx_cast (show 417005568 + 256 * t + o = (416940032 + 256 * t + o) + 65536 by omega) (tx_NF29 (.tail _ (.tail _ (.tail _ (.tail _ (.head _))))) (.tail _ (.tail _ (.tail _ (.tail _ (.tail _ (.head _)))))) H1 fa1)
    · exact rx_cast (show 417005568 + 256 * o + t = (416940032 + 256 * o + t) + 65536 by omega) (rx_NF29 hb4 (by omega) hb6 (by omega) (.tail _ (.tail _ (.tail _ (.tail _ (.head _))))) (.tail _ (.tail _ (.tail _ (.tail _ (.tail _ (.head _)))))) H1 fa1)
    · exact tx_cast (show 417005568 + 256 * o + t = (416940032 + 256 * o + t) + 65536 by omega) (tx_NF29 (.tail _ (.tail _ (.head _))) (.tail _ (.tail _ (.tail _ (.head _)))) H2 fa2)
    · exact rx_cast (show 417005568 + 256 * t + o = (416940032 + 256 * t + o) + 65536 by omega) (rx_NF29 hb6 (by omega) hb4 (by omega) (.tail _ (.tail _ (.head _))) (.tail _ (.tail _ (.tail _ (.head _)))) H2 fa2)
  case s => exact fun q hq => .tail _ (.tail _ (.tail _ (.tail _ (.tail _ (.tail _ hq)))))
  case l =>
    refine List.forall_mem_cons.mpr ⟨?_, List.forall_mem_cons.mpr ⟨?_, List.forall_mem_cons.mpr ⟨?_, List.forall_mem_cons.mpr ⟨?_, List.forall_mem_cons.mpr ⟨?_, List.forall_mem_cons.mpr ⟨?_, hlat⟩⟩⟩⟩⟩⟩ <;> k_ne


theorem kFill2 (w : World) (h : Heap) : (KF w.params).In h → PySem.Challenge.rw_ff0002_01.row.prog = PySem.Challenge.rw_ff0002_01.row.prog → True := by
  k_fill
  exact fun _ _ => trivial
theorem pairK3 {w : World} {A A₀ : Around} {E : Value → Shared → Prop} {hp : Heap} {gs : Array GenState} {dr : Drawn} {tk₀ : Nat} {os : OsState} {h₀ base : Heap} {L : Addr} {m mg mb : Str → Option Value} {p : Program} {loose : List Str} {mean : ExcName → Option Value} {env : Env} {outer : List Env} {rest : Led} {j n : Nat} {told lat : Addr} {ns : List Int} {q a b t o e : Int} {tk tkd ta tb tt to te : Tok} {Q : Flow → Shared → Prop} (B : Below A₀ base outer h₀) (F : Fr h₀ L hp m) (X : (KF w.params).In h₀) (N : News h₀ L hp ((lat, listOf #[.int q tk] n) :: rest)) (T : Top p loose mean mg mb h₀) (hA : A.frames = some (env :: outer)) (hf : env.frame = some L) (hke : env.scope.kind = .function) (R : Room A (j + 8))
    (hlat : ∀ x ∈ rest, x.1 ≠ lat) (hm0 : m (Str.ofString "kind") = some (.int 3 tkd)) (hm1 : m (Str.ofString "first") = some (.int a ta)) (hm2 : m (Str.ofString "second") = some (.int b tb)) (hm3 : m (Str.ofString "one") = some (.int t tt)) (hm4 : m (Str.ofString "other") = some (.int o to)) (hm5 : m (Str.ofString "extension") = some (.int e te)) (hb0 : 1 ≤ a) (hb1 : a ≤ 40) (hb2 : 50 ≤ b) (hb3 : b ≤ 89) (hb4 : 0 ≤ t) (hb5 : t ≤ 249) (hb6 : 0 ≤ o) (hb7 : o ≤ 249) (hb8 : 0 ≤ e) (hb9 : e ≤ 255)
    (h : ∀ (wide : Bool) (num ans fur : Int) (o1 o2 : Option Int) (x1 x2 la lb tup : Addr) (rest' : Led) (t' tn ta : Tok) h' m' tk', KindOk 3 wide num ans fur o1 o2 → PairRes w rest' wide num ans fur o1 o2 x1 x2 la lb → (∀ x ∈ rest, x ∈ rest') → (∀ x ∈ rest', x.1 ≠ lat) → Fr h₀ L h' m' →
      News h₀ L h' ((tup, { cls := .type "tuple", data := .seq #[.ref x1, .ref x2, .ref la, .int num tn, .ref lb, .int ans ta, .bool wide] }) :: (lat, listOf #[.int q t'] n) :: rest') → Q (.ret (.ref tup)) ⟨h', gs, dr, tk', os⟩) :
    wpAny (model PySem.Challenge.rw_ff0002_01.row.prog w) A (execs tlP2 (envOf (Str.ofString "_law_pair") sc1185 L 1185 (.ref 1184))) Q E ⟨hp, gs, dr, tk₀, os⟩ := by
  rw [sgP2_eq]
  have hp0 : 0 ≤ a := by omega
  have hp1 : 0 ≤ b := by omega
  have hp2 : a ≠ b := by omega
  have hp3 : b ≠ a := by omega
  have hp4 : a ≤ 2047 := by omega
  have hp5 : b ≤ 2047 := by omega
  have hp6 : t ≤ 255 := by omega
  have hp7 : o ≤ 255 := by omega
  w_top off
  repeat' (first | (k_unfold; (try dsimp only)) | walk1 | (dsimp only; walk1) | (leave1; try dsimp only))
  
  rename_i x1 d1 es1 n1 al1 ha1 tka1 H1 fa1 lta1 ltb1 x2 d2 es2 n2 al2 ha2 tka2 H2 fa2 lta2 ltb2 la hla lla lb hlb FB NB llb hh FF NN
  refine' h false a b 0 (some t) (some o) x1 x2 la lb _ ((lb, _) :: (la, _) :: (x2, _) :: (d2, _) :: (x1, _) :: (d1, _) :: rest) _ _ _ _ _ _ ?k ?r ?s ?l FF ?nn
  case nn =>
    refine' news_sub NN ?_
    refine' List.forall_mem_cons.mpr ⟨?a, List.forall_mem_cons.mpr ⟨?b, List.forall_mem_cons.mpr ⟨?c, List.forall_mem_cons.mpr ⟨?d, List.forall_mem_cons.mpr ⟨?e, List.forall_mem_cons.mpr ⟨?f, List.forall_mem_cons.mpr ⟨?g, List.forall_mem_cons.mpr ⟨?h, ?_⟩⟩⟩⟩⟩⟩⟩⟩
    case a => k_mem
    case b => k_mem
    case c => k_mem
    case d => k_mem
    case e => k_mem
    case f => k_mem
    case g => k_mem
    case h => k_mem
    intro q hq
    repeat (first | with_reducible_and_instances assumption | refine List.Mem.tail _ ?_)
  case k => constructor <;> omega
  case r => 
    refine ⟨?_, ?_, ?_, ?_, ⟨_, _, .tail _ (.head _)⟩, ⟨_, _, .head _⟩⟩
    · exact tx_cast (show a = a + 0 by omega) (tx_E11 (.tail _ (.tail _ (.tail _ (.tail _ (.head _))))) (.tail _ (.tail _ (.tail _ (.tail _ (.tail _ (.head _)))))) H1 fa1)
    · exact rx_cast (show b = b + 0 by omega) (rx_E11 (.tail _ (.tail _ (.tail _ (.tail _ (.head _))))) (.tail _ (.tail _ (.tail _ (.tail _ (.tail _ (.head _)))))) H1 fa1)
    · exact tx_cast (show b = b + 0 by omega) (tx_E11 (.tail _ (.tail _ (.head _))) (.tail _ (.tail _ (.tail _ (.head _)))) H2 fa2)
    · exact rx_cast (show a = a + 0 by omega) (rx_E11 (.tail _ (.tail _ (.head _))) (.tail _ (.tail _ (.tail _ (.head _)))) H2 fa2)
  case s => exact fun q hq => .tail _ (.tail _ (.tail _ (.tail _ (.tail _ (.tail _ hq)))))
  case l =>
    refine List.forall_mem_cons.mpr ⟨?_, List.forall_mem_cons.mpr ⟨?_, List.forall_mem_cons.mpr ⟨?_, List.forall_mem_cons.mpr ⟨?_, List.forall_mem_cons.mpr ⟨?_, List.forall_mem_cons.mpr ⟨?_, hlat⟩⟩⟩⟩⟩⟩ <;> k_ne

theorem pairK4 {w : World} {A A₀ : Around} {E : Value → Shared → Prop} {hp : Heap} {gs : Array GenState} {dr : Drawn} {tk₀ : Nat} {os : OsState} {h₀ base : Heap} {L : Addr} {m mg mb : Str → Option Value} {p : Program} {loose : List Str} {mean : ExcName → Option Value} {env : Env} {outer : List Env} {rest : Led} {j n : Nat} {told lat : Addr} {ns : List Int} {q a b t o e : Int} {tk tkd ta tb tt to te : Tok} {Q : Flow → Shared → Prop} (B : Below A₀ base outer h₀) (F : Fr h₀ L hp m) (X : (KF w.params).In h₀) (N : News h₀ L hp ((lat, listOf #[.int q tk] n) :: rest)) (T : Top p loose mean mg mb h₀) (hA : A.frames = some (env :: outer)) (hf : env.frame = some L) (hke : env.scope.kind = .function) (R : Room A (j + 8))
    (hlat : ∀ x ∈ rest, x.1 ≠ lat) (hm0 : m (Str.ofString "kind") = some (.int 4 tkd)) (hm1 : m (Str.ofString "first") = some (.int a ta)) (hm2 : m (Str.ofString "second") = some (.int b tb)) (hm3 : m (Str.ofString "one") = some (.int t tt)) (hm4 : m (Str.ofString "other") = some (.int o to)) (hm5 : m (Str.ofString "extension") = some (.int e te)) (hb0 : 1 ≤ a) (hb1 : a ≤ 40) (hb2 : 50 ≤ b) (hb3 : b ≤ 89) (hb4 : 0 ≤ t) (hb5 : t ≤ 249) (hb6 : 0 ≤ o) (hb7 : o ≤ 249) (hb8 : 0 ≤ e) (hb9 : e ≤ 255)
    (h : ∀ (wide : Bool) (num ans fur : Int) (o1 o2 : Option Int) (x1 x2 la lb tup : Addr) (rest' : Led) (t' tn ta : Tok) h' m' tk', KindOk 4 wide num ans fur o1 o2 → PairRes w rest' wide num ans fur o1 o2 x1 x2 la lb → (∀ x ∈ rest, x ∈ rest') → (∀ x ∈ rest', x.1 ≠ lat) → Fr h₀ L h' m' →
      News h₀ L h' ((tup, { cls := .type "tuple", data := .seq #[.ref x1, .ref x2, .ref la, .int num tn, .ref lb, .int ans ta, .bool wide] }) :: (lat, listOf #[.int q t'] n) :: rest') → Q (.ret (.ref tup)) ⟨h', gs, dr, tk', os⟩) :
    wpAny (model PySem.Challenge.rw_ff0002_01.row.prog w) A (execs tlP2 (envOf (Str.ofString "_law_pair") sc1185 L 1185 (.ref 1184))) Q E ⟨hp, gs, dr, tk₀, os⟩ := by
  rw [sgP2_eq]
  have hp0 : 0 ≤ (a * 5000000) := by omega
  have hp1 : 0 ≤ (b * 2000001) := by omega
  have hp2 : (a * 5000000) ≠ (b * 2000001) := wide_ne hb2 hb3
  have hp3 : (b * 2000001) ≠ (a * 5000000) := (wide_ne hb2 hb3).symm
  have hp4 : t ≤ 255 := by omega
  have hp5 : o ≤ 255 := by omega
  w_top off
  repeat' (first | (k_unfold; (try dsimp only)) | walk1 | (dsimp only; walk1) | (leave1; try dsimp only))
  
  rename_i x1 d1 es1 n1 al1 ha1 tka1 H1 fa1 lta1 ltb1 x2 d2 es2 n2 al2 ha2 tka2 H2 fa2 lta2 ltb2 la hla lla lb hlb FB NB llb hh FF NN
  refine' h true (a * 5000000) (b * 2000001) 0 (some t) (some o) x1 x2 la lb _ ((lb, _) :: (la, _) :: (x2, _) :: (d2, _) :: (x1, _) :: (d1, _) :: rest) _ _ _ _ _ _ ?k ?r ?s ?l FF ?nn
  case nn =>
    refine' news_sub NN ?_
    refine' List.forall_mem_cons.mpr ⟨?a, List.forall_mem_cons.mpr ⟨?b, List.forall_mem_cons.mpr ⟨?c, List.forall_mem_cons.mpr ⟨?d, List.forall_mem_cons.mpr ⟨?e, List.forall_mem_cons.mpr ⟨?f, List.forall_mem_cons.mpr ⟨?g, List.forall_mem_cons.mpr ⟨?h, ?_⟩⟩⟩⟩⟩⟩⟩⟩
    case a => k_mem
    case b => k_mem
    case c => k_mem
    case d => k_mem
    case e => k_mem
    case f => k_mem
    case g => k_mem
    case h => k_mem
    intro q hq
    repeat (first | with_reducible_and_instances assumption | refine List.Mem.tail _ ?_)
  case k => constructor <;> omega
  case r => 
    refine ⟨?_, ?_, ?_, ?_, ⟨_, _, .tail _ (.head _)⟩, ⟨_, _, .head _⟩⟩
    · exact tx_cast (show (a * 5000000) = (a * 5000000) + 0 by omega) (tx_E29 (.tail _ (.tail _ (.tail _ (.tail _ (.head _))))) (.tail _ (.tail _ (.tail _ (.tail _ (.tail _ (.head _)))))) H1 fa1)
    · exact rx_cast (show (b * 2000001) = (b * 2000001) + 0 by omega) (rx_E29 (.tail _ (.tail _ (.tail _ (.tail _ (.head _))))) (.tail _ (.tail _ (.tail _ (.tail _ (.tail _ (.head _)))))) H1 fa1)
    · exact tx_cast (show (b * 2000001) = (b * 2000001) + 0 by omega) (tx_E29 (.tail _ (.tail _ (.head _))) (.tail _ (.tail _ (.tail _ (.head _)))) H2 fa2)
    · exact rx_cast (show (a * 5000000) = (a * 5000000) + 0 by omega) (rx_E29 (.tail _ (.tail _ (.head _))) (.tail _ (.tail _ (.tail _ (.head _)))) H2 fa2)
  case s => exact fun q hq => .tail _ (.tail _ (.tail _ (.tail _ (.tail _ (.tail _ hq)))))
  case l =>
    refine List.forall_mem_cons.mpr ⟨?_, List.forall_mem_cons.mpr ⟨?_, List.forall_mem_cons.mpr ⟨?_, List.forall_mem_cons.mpr ⟨?_, List.forall_mem_cons.mpr ⟨?_, List.forall_mem_cons.mpr ⟨?_, hlat⟩⟩⟩⟩⟩⟩ <;> k_ne

theorem pairK5 {w : World} {A A₀ : Around} {E : Value → Shared → Prop} {hp : Heap} {gs : Array GenState} {dr : Drawn} {tk₀ : Nat} {os : OsState} {h₀ base : Heap} {L : Addr} {m mg mb : Str → Option Value} {p : Program} {loose : List Str} {mean : ExcName → Option Value} {env : Env} {outer : List Env} {rest : Led} {j n : Nat} {told lat : Addr} {ns : List Int} {q a b t o e : Int} {tk tkd ta tb tt to te : Tok} {Q : Flow → Shared → Prop} (B : Below A₀ base outer h₀) (F : Fr h₀ L hp m) (X : (KF w.params).In h₀) (N : News h₀ L hp ((lat, listOf #[.int q tk] n) :: rest)) (T : Top p loose mean mg mb h₀) (hA : A.frames = some (env :: outer)) (hf : env.frame = some L) (hke : env.scope.kind = .function) (R : Room A (j + 8))
    (hlat : ∀ x ∈ rest, x.1 ≠ lat) (hm0 : m (Str.ofString "kind") = some (.int 5 tkd)) (hm1 : m (Str.ofString "first") = some (.int a ta)) (hm2 : m (Str.ofString "second") = some (.int b tb)) (hm3 : m (Str.ofString "one") = some (.int t tt)) (hm4 : m (Str.ofString "other") = some (.int o to)) (hm5 : m (Str.ofString "extension") = some (.int e te)) (hb0 : 1 ≤ a) (hb1 : a ≤ 40) (hb2 : 50 ≤ b) (hb3 : b ≤ 89) (hb4 : 0 ≤ t) (hb5 : t ≤ 249) (hb6 : 0 ≤ o) (hb7 : o ≤ 249) (hb8 : 0 ≤ e) (hb9 : e ≤ 255)
    (h : ∀ (wide : Bool) (num ans fur : Int) (o1 o2 : Option Int) (x1 x2 la lb tup : Addr) (rest' : Led) (t' tn ta : Tok) h' m' tk', KindOk 5 wide num ans fur o1 o2 → PairRes w rest' wide num ans fur o1 o2 x1 x2 la lb → (∀ x ∈ rest, x ∈ rest') → (∀ x ∈ rest', x.1 ≠ lat) → Fr h₀ L h' m' →
      News h₀ L h' ((tup, { cls := .type "tuple", data := .seq #[.ref x1, .ref x2, .ref la, .int num tn, .ref lb, .int ans ta, .bool wide] }) :: (lat, listOf #[.int q t'] n) :: rest') → Q (.ret (.ref tup)) ⟨h', gs, dr, tk', os⟩) :
    wpAny (model PySem.Challenge.rw_ff0002_01.row.prog w) A (execs tlP2 (envOf (Str.ofString "_law_pair") sc1185 L 1185 (.ref 1184))) Q E ⟨hp, gs, dr, tk₀, os⟩ := by
  rw [sgP2_eq]
  have hp0 : 0 ≤ a := by omega
  have hp1 : 0 ≤ b := by omega
  have hp2 : a ≠ b := by omega
  have hp3 : b ≠ a := by omega
  have hp4 : a ≤ 2047 := by omega
  have hp5 : b ≤ 2047 := by omega
  w_top off
  repeat' (first | (k_unfold; (try dsimp only)) | walk1 | (dsimp only; walk1) | (leave1; try dsimp only))
  
  rename_i x1 d1 es1 n1 al1 ha1 tka1 H1 fa1 lta1 ltb1 x2 d2 es2 n2 al2 ha2 tka2 H2 fa2 lta2 ltb2 la hla lla lb hlb FB NB llb hh FF NN
  refine' h false a b 0 (some e) (some e) x1 x2 la lb _ ((lb, _) :: (la, _) :: (x2, _) :: (d2, _) :: (x1, _) :: (d1, _) :: rest) _ _ _ _ _ _ ?k ?r ?s ?l FF ?nn
  case nn =>
    refine' news_sub NN ?_
    refine' List.forall_mem_cons.mpr ⟨?a, List.forall_mem_cons.mpr ⟨?b, List.forall_mem_cons.mpr ⟨?c, List.forall_mem_cons.mpr ⟨?d, List.forall_mem_cons.mpr ⟨?e, List.forall_mem_cons.mpr ⟨?f, List.forall_mem_cons.mpr ⟨?g, List.forall_mem_cons.mpr ⟨?h, ?_⟩⟩⟩⟩⟩⟩⟩⟩
    case a => k_mem
    case b => k_mem
    case c => k_mem
    case d => k_mem
    case e => k_mem
    case f => k_mem
    case g => k_mem
    case h => k_mem
    intro q hq
    repeat (first | with_reducible_and_instances assumption | refine List.Mem.tail _ ?_)
  case k => constructor <;> omega
  case r => 
    refine ⟨?_, ?_, ?_, ?_, ⟨_, _, .tail _ (.head _)⟩, ⟨_, _, .head _⟩⟩
    · exact tx_cast (show a = a + 0 by omega) (tx_M11 (.tail _ (.tail _ (.tail _ (.tail _ (.head _))))) (.tail _ (.tail _ (.tail _ (.tail _ (.tail _ (.head _)))))) H1 fa1)
    · exact rx_cast (show b = b + 0 by omega) (rx_M11 (.tail _ (.tail _ (.tail _ (.tail _ (.head _))))) (.tail _ (.tail _ (.tail _ (.tail _ (.tail _ (.head _)))))) H1 fa1)
    · exact tx_cast (show b = b + 0 by omega) (tx_M11 (.tail _ (.tail _ (.head _))) (.tail _ (.tail _ (.tail _ (.head _)))) H2 fa2)
    · exact rx_cast (show a = a + 0 by omega) (rx_M11 (.tail _ (.tail _ (.head _))) (.tail _ (.tail _ (.tail _ (.head _)))) H2 fa2)
  case s => exact fun q hq => .tail _ (.tail _ (.tail _ (.tail _ (.tail _ (.tail _ hq)))))
  case l =>
    refine List.forall_mem_cons.mpr ⟨?_, List.forall_mem_cons.mpr ⟨?_, List.forall_mem_cons.mpr ⟨?_, List.forall_mem_cons.mpr ⟨?_, List.forall_mem_cons.mpr ⟨?_, List.forall_mem_cons.mpr ⟨?_, hlat⟩⟩⟩⟩⟩⟩ <;> k_ne

theorem pairK6 {w : World} {A A₀ : Around} {E : Value → Shared → Prop} {hp : Heap} {gs : Array GenState} {dr : Drawn} {tk₀ : Nat} {os : OsState} {h₀ base : Heap} {L : Addr} {m mg mb : Str → Option Value} {p : Program} {loose : List Str} {mean : ExcName → Option Value} {env : Env} {outer : List Env} {rest : Led} {j n : Nat} {told lat : Addr} {ns : List Int} {q a b t o e : Int} {tk tkd ta tb tt to te : Tok} {Q : Flow → Shared → Prop} (B : Below A₀ base outer h₀) (F : Fr h₀ L hp m) (X : (KF w.params).In h₀) (N : News h₀ L hp ((lat, listOf #[.int q tk] n) :: rest)) (T : Top p loose mean mg mb h₀) (hA : A.frames = some (env :: outer)) (hf : env.frame = some L) (hke : env.scope.kind = .function) (R : Room A (j + 8))
    (hlat : ∀ x ∈ rest, x.1 ≠ lat) (hm0 : m (Str.ofString "kind") = some (.int 6 tkd)) (hm1 : m (Str.ofString "first") = some (.int a ta)) (hm2 : m (Str.ofString "second") = some (.int b tb)) (hm3 : m (Str.ofString "one") = some (.int t tt)) (hm4 : m (Str.ofString "other") = some (.int o to)) (hm5 : m (Str.ofString "extension") = some (.int e te)) (hb0 : 1 ≤ a) (hb1 : a ≤ 40) (hb2 : 50 ≤ b) (hb3 : b ≤ 89) (hb4 : 0 ≤ t) (hb5 : t ≤ 249) (hb6 : 0 ≤ o) (hb7 : o ≤ 249) (hb8 : 0 ≤ e) (hb9 : e ≤ 255)
    (h : ∀ (wide : Bool) (num ans fur : Int) (o1 o2 : Option Int) (x1 x2 la lb tup : Addr) (rest' : Led) (t' tn ta : Tok) h' m' tk', KindOk 6 wide num ans fur o1 o2 → PairRes w rest' wide num ans fur o1 o2 x1 x2 la lb → (∀ x ∈ rest, x ∈ rest') → (∀ x ∈ rest', x.1 ≠ lat) → Fr h₀ L h' m' →
      News h₀ L h' ((tup, { cls := .type "tuple", data := .seq #[.ref x1, .ref x2, .ref la, .int num tn, .ref lb, .int ans ta, .bool wide] }) :: (lat, listOf #[.int q t'] n) :: rest') → Q (.ret (.ref tup)) ⟨h', gs, dr, tk', os⟩) :
    wpAny (model PySem.Challenge.rw_ff0002_01.row.prog w) A (execs tlP2 (envOf (Str.ofString "_law_pair") sc1185 L 1185 (.ref 1184))) Q E ⟨hp, gs, dr, tk₀, os⟩ := by
  rw [sgP2_eq]
  have hp0 : t ≤ 255 := by omega
  have hp1 : o ≤ 255 := by omega
  w_top off
  repeat' (first | (k_unfold; (try dsimp only)) | walk1 | (dsimp only; walk1) | (leave1; try dsimp only))
  
  rename_i x1 d1 es1 n1 al1 ha1 tka1 H1 fa1 lta1 ltb1 x2 d2 es2 n2 al2 ha2 tka2 H2 fa2 lta2 ltb2 la hla lla lb hlb FB NB llb hh FF NN
  refine' h true (416153600 + 256 * t + o) (416153600 + 256 * o + t) (-65536) (some e) (some e) x1 x2 la lb _ ((lb, _) :: (la, _) :: (x2, _) :: (d2, _) :: (x1, _) :: (d1, _) :: rest) _ _ _ _ _ _ ?k ?r ?s ?l FF ?nn
  case nn =>
    refine' news_sub NN ?_
    refine' List.forall_mem_cons.mpr ⟨?a, List.forall_mem_cons.mpr ⟨?b, List.forall_mem_cons.mpr ⟨?c, List.forall_mem_cons.mpr ⟨?d, List.forall_mem_cons.mpr ⟨?e, List.forall_mem_cons.mpr ⟨?f, List.forall_mem_cons.mpr ⟨?g, List.forall_mem_cons.mpr ⟨?h, ?_⟩⟩⟩⟩⟩⟩⟩⟩
    case a => k_mem
    case b => k_mem
    case c => k_mem
    case d => k_mem
    case e => k_mem
    case f => k_mem
    case g => k_mem
    case h => k_mem
    intro q hq
    repeat (first | with_reducible_and_instances assumption | refine List.Mem.tail _ ?_)
  case k => constructor <;> omega
  case r => 
    refine ⟨?_, ?_, ?_, ?_, ⟨_, _, .tail _ (.head _)⟩, ⟨_, _, .head _⟩⟩
    · exact tx_cast (show 416088064 + 256 * t + o = (416153600 + 256 * t + o) + (-65536) by omega) (tx_M29 (.tail _ (.tail _ (.tail _ (.tail _ (.head _))))) (.tail _ (.tail _ (.tail _ (.tail _ (.tail _ (.head _)))))) H1 fa1)
    · exact rx_cast (show 416088064 + 256 * o + t = (416153600 + 256 * o + t) + (-65536) by omega) (rx_M29 hb4 (by omega) hb6 (by omega) (.tail _ (.tail _ (.tail _ (.tail _ (.head _))))) (.tail _ (.tail _ (.tail _ (.tail _ (.tail _ (.head _)))))) H1 fa1)
    · exact tx_cast (show 416088064 + 256 * o + t = (416153600 + 256 * o + t) + (-65536) by omega) (tx_M29 (.tail _ (.tail _ (.head _))) (.tail _ (.tail _ (.tail _ (.head _)))) H2 fa2)
    · exact rx_cast (show 416088064 + 256 * t + o = (416153600 + 256 * t + o) + (-65536) by omega) (rx_M29 hb6 (by omega) hb4 (by omega) (.tail _ (.tail _ (.head _))) (.tail _ (.tail _ (.tail _ (.head _)))) H2 fa2)
  case s => exact fun q hq => .tail _ (.tail _ (.tail _ (.tail _ (.tail _ (.tail _ hq)))))
  case l =>
    refine List.forall_mem_cons.mpr ⟨?_, List.forall_mem_cons.mpr ⟨?_, List.forall_mem_cons.mpr ⟨?_, List.forall_mem_cons.mpr ⟨?_, List.forall_mem_cons.mpr ⟨?_, List.forall_mem_cons.mpr ⟨?_, hlat⟩⟩⟩⟩⟩⟩ <;> k_ne


theorem kFill3 (w : World) (h : Heap) : (KF w.params).In h → PySem.Challenge.rw_ff0002_01.row.prog = PySem.Challenge.rw_ff0002_01.row.prog → True := by
  k_fill
  exact fun _ _ => trivial
theorem pairs (w : World) (rest : Led) (told lat : Addr) (ns : List Int) (n : Nat) (kind : Int) (hk : 0 ≤ kind) (hk' : kind < 7) (D : Draws w rest told lat ns n) : Pair w rest told lat ns n kind := by
  intro p loose mean mg mb A env outer A₀ base h₀ L m s Q E j q tk tkd B F X N T hA hf hke hR hT hq hq' hlat hret
  refine wpAny_call ?_
  k_dflt (refine' ent1185 ?kR ?k1 ?k2 ?k3 ?k4 ?k5 ?kA ?kF ?kK ?_; (case kR => exact hR); (case kA => exact hA); (case kF => exact hf); (case kK => exact hke); (case k1 => k_asm); (case k2 => k_asm); (case k3 => k_asm); (case k4 => k_asm); (case k5 => k_asm); k_whole; intro AA g' L' h' m' tk hq0 hq1 hq2 hq3 hq4 hq5 hq6 hq7 hq8 hq9 hq10 hq11 hq12 hq13 hq14 R' hA' FG' F' N' B' X' T'; (try k_fold))
  have hT' := hT.stay FG'
  obtain ⟨hp, gs, dr, tk₀, os⟩ := s
  refine pairPre D B' F' X' N' T' hA' rfl rfl R' hT' hq hq' (by assumption) (by assumption) (by assumption) ?_
  intro a b t o e ta tb tt to te tk' h'' m'' tk'' b0 b1 b2 b3 b4 b5 b6 b7 b8 b9 F'' N'' m0 m1 m2 m3 m4 m5
  have hc : kind = 0 ∨ kind = 1 ∨ kind = 2 ∨ kind = 3 ∨ kind = 4 ∨ kind = 5 ∨ kind = 6 := by omega
  rcases hc with rfl | rfl | rfl | rfl | rfl | rfl | rfl
  · refine pairK0 (told := told) (ns := ns) B' F'' X' N'' T' hA' rfl rfl R' hlat m0 m1 m2 m3 m4 m5 b0 b1 b2 b3 b4 b5 b6 b7 b8 b9 ?_
    intro wide num ans fur o1 o2 x1 x2 la lb tup rest' t' tn ta' h3 m3' tk3 kok pr hs hl F3 N3
    exact leaveK_ F3 N3 fun F4 N4 => hret wide num ans fur o1 o2 x1 x2 la lb tup rest' t' tn ta' h3 tk3 kok pr hs hl F4 N4
  · refine pairK1 (told := told) (ns := ns) B' F'' X' N'' T' hA' rfl rfl R' hlat m0 m1 m2 m3 m4 m5 b0 b1 b2 b3 b4 b5 b6 b7 b8 b9 ?_
    intro wide num ans fur o1 o2 x1 x2 la lb tup rest' t' tn ta' h3 m3' tk3 kok pr hs hl F3 N3
    exact leaveK_ F3 N3 fun F4 N4 => hret wide num ans fur o1 o2 x1 x2 la lb tup rest' t' tn ta' h3 tk3 kok pr hs hl F4 N4
  · refine pairK2 (told := told) (ns := ns) B' F'' X' N'' T' hA' rfl rfl R' hlat m0 m1 m2 m3 m4 m5 b0 b1 b2 b3 b4 b5 b6 b7 b8 b9 ?_
    intro wide num ans fur o1 o2 x1 x2 la lb tup rest' t' tn ta' h3 m3' tk3 kok pr hs hl F3 N3
    exact leaveK_ F3 N3 fun F4 N4 => hret wide num ans fur o1 o2 x1 x2 la lb tup rest' t' tn ta' h3 tk3 kok pr hs hl F4 N4
  · refine pairK3 (told := told) (ns := ns) B' F'' X' N'' T' hA' rfl rfl R' hlat m0 m1 m2 m3 m4 m5 b0 b1 b2 b3 b4 b5 b6 b7 b8 b9 ?_
    intro wide num ans fur o1 o2 x1 x2 la lb tup rest' t' tn ta' h3 m3' tk3 kok pr hs hl F3 N3
    exact leaveK_ F3 N3 fun F4 N4 => hret wide num ans fur o1 o2 x1 x2 la lb tup rest' t' tn ta' h3 tk3 kok pr hs hl F4 N4
  · refine pairK4 (told := told) (ns := ns) B' F'' X' N'' T' hA' rfl rfl R' hlat m0 m1 m2 m3 m4 m5 b0 b1 b2 b3 b4 b5 b6 b7 b8 b9 ?_
    intro wide num ans fur o1 o2 x1 x2 la lb tup rest' t' tn ta' h3 m3' tk3 kok pr hs hl F3 N3
    exact leaveK_ F3 N3 fun F4 N4 => hret wide num ans fur o1 o2 x1 x2 la lb tup rest' t' tn ta' h3 tk3 kok pr hs hl F4 N4
  · refine pairK5 (told := told) (ns := ns) B' F'' X' N'' T' hA' rfl rfl R' hlat m0 m1 m2 m3 m4 m5 b0 b1 b2 b3 b4 b5 b6 b7 b8 b9 ?_
    intro wide num ans fur o1 o2 x1 x2 la lb tup rest' t' tn ta' h3 m3' tk3 kok pr hs hl F3 N3
    exact leaveK_ F3 N3 fun F4 N4 => hret wide num ans fur o1 o2 x1 x2 la lb tup rest' t' tn ta' h3 tk3 kok pr hs hl F4 N4
  · refine pairK6 (told := told) (ns := ns) B' F'' X' N'' T' hA' rfl rfl R' hlat m0 m1 m2 m3 m4 m5 b0 b1 b2 b3 b4 b5 b6 b7 b8 b9 ?_
    intro wide num ans fur o1 o2 x1 x2 la lb tup rest' t' tn ta' h3 m3' tk3 kok pr hs hl F3 N3
    exact leaveK_ F3 N3 fun F4 N4 => hret wide num ans fur o1 o2 x1 x2 la lb tup rest' t' tn ta' h3 tk3 kok pr hs hl F4 N4

theorem kFill_LA0 (w : World) (h : Heap) : (KF w.params).In h → PySem.Challenge.rw_ff0002_01.row.prog = PySem.Challenge.rw_ff0002_01.row.prog → True := by
  k_fill
  exact fun _ _ => trivial
section
variable {w : World} {E : Value → Shared → Prop} {hp : Heap} {gs : Array GenState} {dr : Drawn} {tk₀ : Nat} {os : OsState} {h₀ : Heap} {L fa : Addr} {cd : Value} {m mg mb : Str → Option Value} {p : Program} {loose : List Str} {mean : ExcName → Option Value} {Q : Flow → Shared → Prop} {rest : Led} {n : Nat} {told lat : Addr} {ns : List Int} {q : Int} {tq : Tok} {sl : Addr} {its : List Value} {xs : List Int}
theorem law0 (F : Fr h₀ L hp m) (X : (KF w.params).In h₀) (N : News h₀ L hp []) (T : Top p loose mean mg mb h₀) (hs : m (Str.ofString "script") = some (.ref sl)) (hl : h₀.IsList sl its.toArray) (hi : IntsAre its xs) (hx : xs.length ≤ 63)
    (h : ∀ told lat ns rest t h' m' tk' n, 0 < ns.length → ns.length ≤ 63 → Told h₀ rest told ns → (∀ x ∈ rest, x.1 ≠ lat) → Fr h₀ L h' m' → News h₀ L h' ((lat, listOf #[.int 0 t] n) :: rest) → m' (Str.ofString "told") = some (.ref told) → m' (Str.ofString "at") = some (.ref lat) → wpAny (model PySem.Challenge.rw_ff0002_01.row.prog w) (lawA L fa cd) (execs tlL1 (envOf (Str.ofString "law") sc1192 L fa cd)) Q E ⟨h', gs, dr, tk', os⟩) :
    wpAny (model PySem.Challenge.rw_ff0002_01.row.prog w) (lawA L fa cd) (execs bd1192 (envOf (Str.ofString "law") sc1192 L fa cd)) Q E ⟨hp, gs, dr, tk₀, os⟩ := by
  rw [sgL0_eq]
  have B := below_caller h₀
  have R := lawA_room L fa cd
  w_top off
  repeat' (first | (k_unfold; (try dsimp only)) | walk1 | (dsimp only; walk1) | (leave1; try dsimp only))
  
  · refine' h _ _ xs [] _ _ _ _ _ ?a hx ⟨its, hi, .inl hl⟩ ?b ?F ?N ?m1 ?m2
    case F => k_asm
    case N => exact news_tl (by k_asm)
    case a => assumption
    case b => exact fun _ h => nomatch h
    case m1 => first | with_reducible assumption | ((repeat (refine up_n (by decide +kernel) ?_)); first | exact up_eq | with_reducible assumption)
    case m2 => first | with_reducible assumption | ((repeat (refine up_n (by decide +kernel) ?_)); first | exact up_eq | with_reducible assumption)
  · refine' h _ _ [4, 2, 1] [(_, listOf #[.int 4 _, .int 2 _, .int 1 _] 0)] _ _ _ _ _ ?a ?c ⟨[.int 4 _, .int 2 _, .int 1 _], ?i, .inr ⟨0, .head _⟩⟩ ?b ?F ?N ?m1 ?m2
    case F => k_asm
    case N => exact news_tl (by k_asm)
    case m1 => first | with_reducible assumption | ((repeat (refine up_n (by decide +kernel) ?_)); first | exact up_eq | with_reducible assumption)
    case m2 => first | with_reducible assumption | ((repeat (refine up_n (by decide +kernel) ?_)); first | exact up_eq | with_reducible assumption)
    case i => exact .cons _ _ (.cons _ _ (.cons _ _ .nil))
    case a => decide
    case c => decide
    case b =>
      refine List.forall_mem_cons.mpr ⟨?_, fun _ h => nomatch h⟩
      k_ne
end
section
variable {w : World} {E : Value → Shared → Prop} {hp : Heap} {gs : Array GenState} {dr : Drawn} {tk₀ : Nat} {os : OsState} {h₀ : Heap} {L fa : Addr} {cd : Value} {m mg mb : Str → Option Value} {p : Program} {loose : List Str} {mean : ExcName → Option Value} {Q : Flow → Shared → Prop} {rest : Led} {n : Nat} {told lat : Addr} {ns : List Int} {q : Int} {tq : Tok}
theorem law1 (F : Fr h₀ L hp m) (X : (KF w.params).In h₀) (N : News h₀ L hp ((lat, listOf #[.int q tq] n) :: rest)) (T : Top p loose mean mg mb h₀) (hx0 : 0 < ns.length) (hx : ns.length ≤ 63) (hT : Told h₀ rest told ns) (hlat : ∀ x ∈ rest, x.1 ≠ lat) (hq : 0 ≤ q) (hq' : q ≤ 40) (m0 : m (Str.ofString "told") = some (.ref told)) (m1 : m (Str.ofString "at") = some (.ref lat))
    (h : ∀ (kind num ans fur : Int) (wide : Bool) (o1 o2 : Option Int) (x1 x2 la lb : Addr) (tkd tn ta : Tok) (rest' : Led) t' h' m' tk', KindOk kind wide num ans fur o1 o2 → PairRes w rest' wide num ans fur o1 o2 x1 x2 la lb → Told h₀ rest' told ns → (∀ x ∈ rest', x.1 ≠ lat) → Fr h₀ L h' m' → News h₀ L h' ((lat, listOf #[.int (q + 6) t'] n) :: rest') →
      m' (Str.ofString "told") = some (.ref told) → m' (Str.ofString "at") = some (.ref lat) → m' (Str.ofString "kind") = some (.int kind tkd) → m' (Str.ofString "first") = some (.ref x1) → m' (Str.ofString "second") = some (.ref x2) → m' (Str.ofString "ahead") = some (.ref la) → m' (Str.ofString "number") = some (.int num tn) → m' (Str.ofString "back") = some (.ref lb) → m' (Str.ofString "answer") = some (.int ans ta) → m' (Str.ofString "wide") = some (.bool wide) → wpAny (model PySem.Challenge.rw_ff0002_01.row.prog w) (lawA L fa cd) (execs tlL3 (envOf (Str.ofString "law") sc1192 L fa cd)) Q E ⟨h', gs, dr, tk', os⟩) :
    wpAny (model PySem.Challenge.rw_ff0002_01.row.prog w) (lawA L fa cd) (execs tlL1 (envOf (Str.ofString "law") sc1192 L fa cd)) Q E ⟨hp, gs, dr, tk₀, os⟩ := by
  rw [sgL1_eq]
  have D := draws w rest told lat ns n hx0 hx hlat
  have Pr : ∀ kind : Int, 0 ≤ kind → kind < 7 → Pair w rest told lat ns n kind := fun kind hk hk' => pairs w rest told lat ns n kind hk hk' D
  have B := below_caller h₀
  have R := lawA_room L fa cd
  w_top off
  repeat' (first | (k_unfold; (try dsimp only)) | walk1 | (dsimp only; walk1) | (leave1; try dsimp only))
  
  refine' h _ _ _ _ _ _ _ _ _ _ _ _ _ _ _ _ _ _ _ ?kk ?kp ?kt ?kl ?F ?N ?m0 ?m1 ?m2 ?m3 ?m4 ?m5 ?m6 ?m7 ?m8 ?m9
  case kp => assumption
  case kk => assumption
  case kt => exact hT.more (by assumption)
  case kl => assumption
  case F => k_asm
  case N =>
    rw [show q + 6 = q + 1 + 5 by omega]
    exact news_tl (by k_asm)
  case m0 => first | with_reducible assumption | ((repeat (refine up_n (by decide +kernel) ?_)); first | exact up_eq | with_reducible assumption)
  case m1 => first | with_reducible assumption | ((repeat (refine up_n (by decide +kernel) ?_)); first | exact up_eq | with_reducible assumption)
  case m2 => first | with_reducible assumption | ((repeat (refine up_n (by decide +kernel) ?_)); first | exact up_eq | with_reducible assumption)
  case m3 => first | with_reducible assumption | ((repeat (refine up_n (by decide +kernel) ?_)); first | exact up_eq | with_reducible assumption)
  case m4 => first | with_reducible assumption | ((repeat (refine up_n (by decide +kernel) ?_)); first | exact up_eq | with_reducible assumption)
  case m5 => first | with_reducible assumption | ((repeat (refine up_n (by decide +kernel) ?_)); first | exact up_eq | with_reducible assumption)
  case m6 => first | with_reducible assumption | ((repeat (refine up_n (by decide +kernel) ?_)); first | exact up_eq | with_reducible assumption)
  case m7 => first | with_reducible assumption | ((repeat (refine up_n (by decide +kernel) ?_)); first | exact up_eq | with_reducible assumption)
  case m8 => first | with_reducible assumption | ((repeat (refine up_n (by decide +kernel) ?_)); first | exact up_eq | with_reducible assumption)
  case m9 => first | with_reducible assumption | ((repeat (refine up_n (by decide +kernel) ?_)); first | exact up_eq | with_reducible assumption)
end
section
variable {w : World} {E : Value → Shared → Prop} {hp : Heap} {gs : Array GenState} {dr : Drawn} {tk₀ : Nat} {os : OsState} {h₀ : Heap} {L fa : Addr} {cd : Value} {m mg mb : Str → Option Value} {p : Program} {loose : List Str} {mean : ExcName → Option Value} {Q : Flow → Shared → Prop} {rest : Led} {n : Nat} {told lat : Addr} {ns : List Int} {q : Int} {tq : Tok} {kind num ans fur : Int} {wide : Bool} {o1 o2 : Option Int} {x1 x2 la lb : Addr} {tkd tn ta : Tok}
theorem law3 (F : Fr h₀ L hp m) (X : (KF w.params).In h₀) (N : News h₀ L hp ((lat, listOf #[.int q tq] n) :: rest)) (T : Top p loose mean mg mb h₀) (kok : KindOk kind wide num ans fur o1 o2) (pr : PairRes w rest wide num ans fur o1 o2 x1 x2 la lb) (m0 : m (Str.ofString "told") = some (.ref told)) (m1 : m (Str.ofString "at") = some (.ref lat)) (m2 : m (Str.ofString "kind") = some (.int kind tkd)) (m3 : m (Str.ofString "first") = some (.ref x1)) (m4 : m (Str.ofString "second") = some (.ref x2)) (m5 : m (Str.ofString "ahead") = some (.ref la)) (m6 : m (Str.ofString "number") = some (.int num tn)) (m7 : m (Str.ofString "back") = some (.ref lb)) (m8 : m (Str.ofString "answer") = some (.int ans ta)) (m9 : m (Str.ofString "wide") = some (.bool wide))
    (h : ∀ (tf : Tok) h' m' tk', Fr h₀ L h' m' → News h₀ L h' ((lat, listOf #[.int q tq] n) :: rest) → m' (Str.ofString "told") = some (.ref told) → m' (Str.ofString "at") = some (.ref lat) → m' (Str.ofString "kind") = some (.int kind tkd) → m' (Str.ofString "first") = some (.ref x1) → m' (Str.ofString "second") = some (.ref x2) → m' (Str.ofString "ahead") = some (.ref la) → m' (Str.ofString "number") = some (.int num tn) → m' (Str.ofString "back") = some (.ref lb) → m' (Str.ofString "answer") = some (.int ans ta) → m' (Str.ofString "wide") = some (.bool wide) → m' (Str.ofString "made") = some (.bool (decide (kind = 2 ∨ kind = 6))) → m' (Str.ofString "further") = some (.int fur tf) → wpAny (model PySem.Challenge.rw_ff0002_01.row.prog w) (lawA L fa cd) (execs tlL5 (envOf (Str.ofString "law") sc1192 L fa cd)) Q E ⟨h', gs, dr, tk', os⟩) :
    wpAny (model PySem.Challenge.rw_ff0002_01.row.prog w) (lawA L fa cd) (execs tlL3 (envOf (Str.ofString "law") sc1192 L fa cd)) Q E ⟨hp, gs, dr, tk₀, os⟩ := by
  rw [sgL3_eq]
  clear pr
  cases kok
  all_goals (
  have B := below_caller h₀
  have R := lawA_room L fa cd
  w_top off
  repeat' (first | (k_unfold; (try dsimp only)) | walk1 | (dsimp only; walk1) | (leave1; try dsimp only))
  
  refine' h _ _ _ _ ?F ?N ?m0 ?m1 ?m2 ?m3 ?m4 ?m5 ?m6 ?m7 ?m8 ?m9 ?m10 ?m11
  case F => k_asm
  case N => first | k_asm | (refine' news_sub ?n1 (List.forall_mem_cons.mpr ⟨?n2, ?n3⟩); (case n1 => k_asm); (case n2 => k_mem); (case n3 => intro q hq; repeat (first | with_reducible_and_instances assumption | refine List.Mem.tail _ ?_)))
  case m0 => first | with_reducible assumption | ((repeat (refine up_n (by decide +kernel) ?_)); first | exact up_eq | with_reducible assumption)
  case m1 => first | with_reducible assumption | ((repeat (refine up_n (by decide +kernel) ?_)); first | exact up_eq | with_reducible assumption)
  case m2 => first | with_reducible assumption | ((repeat (refine up_n (by decide +kernel) ?_)); first | exact up_eq | with_reducible assumption)
  case m3 => first | with_reducible assumption | ((repeat (refine up_n (by decide +kernel) ?_)); first | exact up_eq | with_reducible assumption)
  case m4 => first | with_reducible assumption | ((repeat (refine up_n (by decide +kernel) ?_)); first | exact up_eq | with_reducible assumption)
  case m5 => first | with_reducible assumption | ((repeat (refine up_n (by decide +kernel) ?_)); first | exact up_eq | with_reducible assumption)
  case m6 => first | with_reducible assumption | ((repeat (refine up_n (by decide +kernel) ?_)); first | exact up_eq | with_reducible assumption)
  case m7 => first | with_reducible assumption | ((repeat (refine up_n (by decide +kernel) ?_)); first | exact up_eq | with_reducible assumption)
  case m8 => first | with_reducible assumption | ((repeat (refine up_n (by decide +kernel) ?_)); first | exact up_eq | with_reducible assumption)
  case m9 => first | with_reducible assumption | ((repeat (refine up_n (by decide +kernel) ?_)); first | exact up_eq | with_reducible assumption)
  case m10 => first | with_reducible assumption | ((repeat (refine up_n (by decide +kernel) ?_)); first | exact up_eq | with_reducible assumption)
  case m11 => first | with_reducible assumption | ((repeat (refine up_n (by decide +kernel) ?_)); first | exact up_eq | with_reducible assumption))
end
section
variable {w : World} {E : Value → Shared → Prop} {hp : Heap} {gs : Array GenState} {dr : Drawn} {tk₀ : Nat} {os : OsState} {h₀ : Heap} {L fa : Addr} {cd : Value} {m mg mb : Str → Option Value} {p : Program} {loose : List Str} {mean : ExcName → Option Value} {Q : Flow → Shared → Prop} {rest : Led} {n : Nat} {told lat : Addr} {ns : List Int} {q : Int} {tq : Tok} {kind num ans fur : Int} {wide : Bool} {o1 o2 : Option Int} {x1 x2 la lb : Addr} {tkd tn ta : Tok} {tf : Tok}
theorem law5 (F : Fr h₀ L hp m) (X : (KF w.params).In h₀) (N : News h₀ L hp ((lat, listOf #[.int q tq] n) :: rest)) (T : Top p loose mean mg mb h₀) (pr : PairRes w rest wide num ans fur o1 o2 x1 x2 la lb) (ho : ∀ j, o1 = some j → 0 ≤ j ∧ j ≤ 255) (m0 : m (Str.ofString "told") = some (.ref told)) (m1 : m (Str.ofString "at") = some (.ref lat)) (m2 : m (Str.ofString "kind") = some (.int kind tkd)) (m3 : m (Str.ofString "first") = some (.ref x1)) (m4 : m (Str.ofString "second") = some (.ref x2)) (m5 : m (Str.ofString "ahead") = some (.ref la)) (m6 : m (Str.ofString "number") = some (.int num tn)) (m7 : m (Str.ofString "back") = some (.ref lb)) (m8 : m (Str.ofString "answer") = some (.int ans ta)) (m9 : m (Str.ofString "wide") = some (.bool wide)) (m10 : m (Str.ofString "made") = some (.bool (decide (kind = 2 ∨ kind = 6)))) (m11 : m (Str.ofString "further") = some (.int fur tf))
    (h : ∀ (ov : Value) h' m' tk', IsO o1 ov → Fr h₀ L h' m' → News h₀ L h' ((lat, listOf #[.int q tq] n) :: rest) → m' (Str.ofString "told") = some (.ref told) → m' (Str.ofString "at") = some (.ref lat) → m' (Str.ofString "kind") = some (.int kind tkd) → m' (Str.ofString "first") = some (.ref x1) → m' (Str.ofString "second") = some (.ref x2) → m' (Str.ofString "ahead") = some (.ref la) → m' (Str.ofString "number") = some (.int num tn) → m' (Str.ofString "back") = some (.ref lb) → m' (Str.ofString "answer") = some (.int ans ta) → m' (Str.ofString "wide") = some (.bool wide) → m' (Str.ofString "made") = some (.bool (decide (kind = 2 ∨ kind = 6))) → m' (Str.ofString "further") = some (.int fur tf) → m' (Str.ofString "octet") = some (ov) → wpAny (model PySem.Challenge.rw_ff0002_01.row.prog w) (lawA L fa cd) (execs tlL11 (envOf (Str.ofString "law") sc1192 L fa cd)) Q E ⟨h', gs, dr, tk', os⟩) :
    wpAny (model PySem.Challenge.rw_ff0002_01.row.prog w) (lawA L fa cd) (execs tlL5 (envOf (Str.ofString "law") sc1192 L fa cd)) Q E ⟨hp, gs, dr, tk₀, os⟩ := by
  rw [sgL5_eq]
  obtain ⟨T1, R1, T2, R2, ⟨t1, n1, L1⟩, ⟨t2, n2, L2⟩⟩ := pr
  cases o1
  all_goals (
  (try have ho' := ho _ rfl)
  have B := below_caller h₀
  have R := lawA_room L fa cd
  w_top off
  repeat' (first | (k_unfold; (try dsimp only)) | walk1 | (dsimp only; walk1) | (leave1; try dsimp only))
  
  refine' h _ _ _ _ ?i ?F ?N ?m0 ?m1 ?m2 ?m3 ?m4 ?m5 ?m6 ?m7 ?m8 ?m9 ?m10 ?m11 ?m12
  case F => k_asm
  case N => first | k_asm | (refine' news_sub ?n1 (List.forall_mem_cons.mpr ⟨?n2, ?n3⟩); (case n1 => k_asm); (case n2 => k_mem); (case n3 => intro q hq; repeat (first | with_reducible_and_instances assumption | refine List.Mem.tail _ ?_)))
  case m0 => first | with_reducible assumption | ((repeat (refine up_n (by decide +kernel) ?_)); first | exact up_eq | with_reducible assumption)
  case m1 => first | with_reducible assumption | ((repeat (refine up_n (by decide +kernel) ?_)); first | exact up_eq | with_reducible assumption)
  case m2 => first | with_reducible assumption | ((repeat (refine up_n (by decide +kernel) ?_)); first | exact up_eq | with_reducible assumption)
  case m3 => first | with_reducible assumption | ((repeat (refine up_n (by decide +kernel) ?_)); first | exact up_eq | with_reducible assumption)
  case m4 => first | with_reducible assumption | ((repeat (refine up_n (by decide +kernel) ?_)); first | exact up_eq | with_reducible assumption)
  case m5 => first | with_reducible assumption | ((repeat (refine up_n (by decide +kernel) ?_)); first | exact up_eq | with_reducible assumption)
  case m6 => first | with_reducible assumption | ((repeat (refine up_n (by decide +kernel) ?_)); first | exact up_eq | with_reducible assumption)
  case m7 => first | with_reducible assumption | ((repeat (refine up_n (by decide +kernel) ?_)); first | exact up_eq | with_reducible assumption)
  case m8 => first | with_reducible assumption | ((repeat (refine up_n (by decide +kernel) ?_)); first | exact up_eq | with_reducible assumption)
  case m9 => first | with_reducible assumption | ((repeat (refine up_n (by decide +kernel) ?_)); first | exact up_eq | with_reducible assumption)
  case m10 => first | with_reducible assumption | ((repeat (refine up_n (by decide +kernel) ?_)); first | exact up_eq | with_reducible assumption)
  case m11 => first | with_reducible assumption | ((repeat (refine up_n (by decide +kernel) ?_)); first | exact up_eq | with_reducible assumption)
  case m12 => first | with_reducible assumption | ((repeat (refine up_n (by decide +kernel) ?_)); first | exact up_eq | with_reducible assumption)
  case i => first | exact rfl | exact ⟨_, rfl⟩)
end

theorem kFill_LA1 (w : World) (h : Heap) : (KF w.params).In h → PySem.Challenge.rw_ff0002_01.row.prog = PySem.Challenge.rw_ff0002_01.row.prog → True := by
  k_fill
  exact fun _ _ => trivial
section
variable {w : World} {E : Value → Shared → Prop} {hp : Heap} {gs : Array GenState} {dr : Drawn} {tk₀ : Nat} {os : OsState} {h₀ : Heap} {L fa : Addr} {cd : Value} {m mg mb : Str → Option Value} {p : Program} {loose : List Str} {mean : ExcName → Option Value} {Q : Flow → Shared → Prop} {rest : Led} {n : Nat} {told lat : Addr} {ns : List Int} {q : Int} {tq : Tok} {num ans t o e : Int} {x1 x2 la lb : Addr} {tkd tn ta tf to : Tok}
theorem law11_0 (F : Fr h₀ L hp m) (X : (KF w.params).In h₀) (N : News h₀ L hp ((lat, listOf #[.int q tq] n) :: rest)) (T : Top p loose mean mg mb h₀) (hlat : ∀ x ∈ rest, x.1 ≠ lat) (hb0 : 0 ≤ num) (hb1 : num ≤ 2047) (m0 : m (Str.ofString "told") = some (.ref told)) (m1 : m (Str.ofString "at") = some (.ref lat)) (m2 : m (Str.ofString "kind") = some (.int 0 tkd)) (m3 : m (Str.ofString "first") = some (.ref x1)) (m4 : m (Str.ofString "second") = some (.ref x2)) (m5 : m (Str.ofString "ahead") = some (.ref la)) (m6 : m (Str.ofString "number") = some (.int num tn)) (m7 : m (Str.ofString "back") = some (.ref lb)) (m8 : m (Str.ofString "answer") = some (.int ans ta)) (m9 : m (Str.ofString "wide") = some (.bool false)) (m10 : m (Str.ofString "made") = some (.bool (false))) (m11 : m (Str.ofString "further") = some (.int 0 tf)) (m12 : m (Str.ofString "octet") = some (.none))
    (h : ∀ (xh : Addr) (rest' : Led) h' m' tk', HalfRx w rest' xh false num (num + 0) none → (∀ x ∈ rest, x ∈ rest') → (∀ x ∈ rest', x.1 ≠ lat) → Fr h₀ L h' m' → News h₀ L h' ((lat, listOf #[.int q tq] n) :: rest') → m' (Str.ofString "told") = some (.ref told) → m' (Str.ofString "at") = some (.ref lat) → m' (Str.ofString "first") = some (.ref x1) → m' (Str.ofString "second") = some (.ref x2) → m' (Str.ofString "ahead") = some (.ref la) → m' (Str.ofString "number") = some (.int num tn) → m' (Str.ofString "back") = some (.ref lb) → m' (Str.ofString "answer") = some (.int ans ta) → m' (Str.ofString "wide") = some (.bool false) → m' (Str.ofString "further") = some (.int 0 tf) → m' (Str.ofString "octet") = some (.none) → m' (Str.ofString "hears") = some (.ref xh) → wpAny (model PySem.Challenge.rw_ff0002_01.row.prog w) (lawA L fa cd) (execs tlL13 (envOf (Str.ofString "law") sc1192 L fa cd)) Q E ⟨h', gs, dr, tk', os⟩) :
    wpAny (model PySem.Challenge.rw_ff0002_01.row.prog w) (lawA L fa cd) (execs tlL11 (envOf (Str.ofString "law") sc1192 L fa cd)) Q E ⟨hp, gs, dr, tk₀, os⟩ := by
  rw [sgL11_eq]
  have B := below_caller h₀
  have R := lawA_room L fa cd
  w_top off
  repeat' (first | (k_unfold; (try dsimp only)) | walk1 | (dsimp only; walk1) | (leave1; try dsimp only))
  
  rename_i xh d1 es1 n1 al1 ha1 tka1 H1 fa1 lta1 ltb1 hh1 FF NN
  refine' h xh ((xh, instObj 1036 d1) :: (d1, dictOf es1 n1) :: rest) _ _ _ (halfRx (.head _) (.tail _ (.head _)) H1 fa1 (rx_cast (show num = num + 0 by omega) (rx_N11 (.head _) (.tail _ (.head _)) H1 fa1))) (fun q hq => .tail _ (.tail _ hq)) ?l ?F ?N ?m0 ?m1 ?m2 ?m3 ?m4 ?m5 ?m6 ?m7 ?m8 ?m9 ?m10 ?m11
  case F => k_asm
  case N =>
    refine' news_sub NN (List.forall_mem_cons.mpr ⟨?n2, List.forall_mem_cons.mpr ⟨?n3, List.forall_mem_cons.mpr ⟨?n4, ?n5⟩⟩⟩)
    case n2 => k_mem
    case n3 => k_mem
    case n4 => k_mem
    case n5 => intro q hq; repeat (first | with_reducible_and_instances assumption | refine List.Mem.tail _ ?_)
  case l => refine List.forall_mem_cons.mpr ⟨?_, List.forall_mem_cons.mpr ⟨?_, hlat⟩⟩ <;> k_ne
  case m0 => first | with_reducible assumption | ((repeat (refine up_n (by decide +kernel) ?_)); first | exact up_eq | with_reducible assumption)
  case m1 => first | with_reducible assumption | ((repeat (refine up_n (by decide +kernel) ?_)); first | exact up_eq | with_reducible assumption)
  case m2 => first | with_reducible assumption | ((repeat (refine up_n (by decide +kernel) ?_)); first | exact up_eq | with_reducible assumption)
  case m3 => first | with_reducible assumption | ((repeat (refine up_n (by decide +kernel) ?_)); first | exact up_eq | with_reducible assumption)
  case m4 => first | with_reducible assumption | ((repeat (refine up_n (by decide +kernel) ?_)); first | exact up_eq | with_reducible assumption)
  case m5 => first | with_reducible assumption | ((repeat (refine up_n (by decide +kernel) ?_)); first | exact up_eq | with_reducible assumption)
  case m6 => first | with_reducible assumption | ((repeat (refine up_n (by decide +kernel) ?_)); first | exact up_eq | with_reducible assumption)
  case m7 => first | with_reducible assumption | ((repeat (refine up_n (by decide +kernel) ?_)); first | exact up_eq | with_reducible assumption)
  case m8 => first | with_reducible assumption | ((repeat (refine up_n (by decide +kernel) ?_)); first | exact up_eq | with_reducible assumption)
  case m9 => first | with_reducible assumption | ((repeat (refine up_n (by decide +kernel) ?_)); first | exact up_eq | with_reducible assumption)
  case m10 => first | with_reducible assumption | ((repeat (refine up_n (by decide +kernel) ?_)); first | exact up_eq | with_reducible assumption)
  case m11 => first | with_reducible assumption | ((repeat (refine up_n (by decide +kernel) ?_)); first | exact up_eq | with_reducible assumption)
end
section
variable {w : World} {E : Value → Shared → Prop} {hp : Heap} {gs : Array GenState} {dr : Drawn} {tk₀ : Nat} {os : OsState} {h₀ : Heap} {L fa : Addr} {cd : Value} {m mg mb : Str → Option Value} {p : Program} {loose : List Str} {mean : ExcName → Option Value} {Q : Flow → Shared → Prop} {rest : Led} {n : Nat} {told lat : Addr} {ns : List Int} {q : Int} {tq : Tok} {num ans t o e : Int} {x1 x2 la lb : Addr} {tkd tn ta tf to : Tok}
theorem law11_1 (F : Fr h₀ L hp m) (X : (KF w.params).In h₀) (N : News h₀ L hp ((lat, listOf #[.int q tq] n) :: rest)) (T : Top p loose mean mg mb h₀) (hlat : ∀ x ∈ rest, x.1 ≠ lat) (hb0 : 0 ≤ num) (hb1 : num < 536870912) (m0 : m (Str.ofString "told") = some (.ref told)) (m1 : m (Str.ofString "at") = some (.ref lat)) (m2 : m (Str.ofString "kind") = some (.int 1 tkd)) (m3 : m (Str.ofString "first") = some (.ref x1)) (m4 : m (Str.ofString "second") = some (.ref x2)) (m5 : m (Str.ofString "ahead") = some (.ref la)) (m6 : m (Str.ofString "number") = some (.int num tn)) (m7 : m (Str.ofString "back") = some (.ref lb)) (m8 : m (Str.ofString "answer") = some (.int ans ta)) (m9 : m (Str.ofString "wide") = some (.bool true)) (m10 : m (Str.ofString "made") = some (.bool (false))) (m11 : m (Str.ofString "further") = some (.int 0 tf)) (m12 : m (Str.ofString "octet") = some (.none))
    (h : ∀ (xh : Addr) (rest' : Led) h' m' tk', HalfRx w rest' xh true num (num + 0) none → (∀ x ∈ rest, x ∈ rest') → (∀ x ∈ rest', x.1 ≠ lat) → Fr h₀ L h' m' → News h₀ L h' ((lat, listOf #[.int q tq] n) :: rest') → m' (Str.ofString "told") = some (.ref told) → m' (Str.ofString "at") = some (.ref lat) → m' (Str.ofString "first") = some (.ref x1) → m' (Str.ofString "second") = some (.ref x2) → m' (Str.ofString "ahead") = some (.ref la) → m' (Str.ofString "number") = some (.int num tn) → m' (Str.ofString "back") = some (.ref lb) → m' (Str.ofString "answer") = some (.int ans ta) → m' (Str.ofString "wide") = some (.bool true) → m' (Str.ofString "further") = some (.int 0 tf) → m' (Str.ofString "octet") = some (.none) → m' (Str.ofString "hears") = some (.ref xh) → wpAny (model PySem.Challenge.rw_ff0002_01.row.prog w) (lawA L fa cd) (execs tlL13 (envOf (Str.ofString "law") sc1192 L fa cd)) Q E ⟨h', gs, dr, tk', os⟩) :
    wpAny (model PySem.Challenge.rw_ff0002_01.row.prog w) (lawA L fa cd) (execs tlL11 (envOf (Str.ofString "law") sc1192 L fa cd)) Q E ⟨hp, gs, dr, tk₀, os⟩ := by
  rw [sgL11_eq]
  have B := below_caller h₀
  have R := lawA_room L fa cd
  w_top off
  repeat' (first | (k_unfold; (try dsimp only)) | walk1 | (dsimp only; walk1) | (leave1; try dsimp only))
  
  rename_i xh d1 es1 n1 al1 ha1 tka1 H1 fa1 lta1 ltb1 hh1 FF NN
  refine' h xh ((xh, instObj 1036 d1) :: (d1, dictOf es1 n1) :: rest) _ _ _ (halfRx (.head _) (.tail _ (.head _)) H1 fa1 (rx_cast (show num = num + 0 by omega) (rx_N29 (.head _) (.tail _ (.head _)) H1 fa1))) (fun q hq => .tail _ (.tail _ hq)) ?l ?F ?N ?m0 ?m1 ?m2 ?m3 ?m4 ?m5 ?m6 ?m7 ?m8 ?m9 ?m10 ?m11
  case F => k_asm
  case N =>
    refine' news_sub NN (List.forall_mem_cons.mpr ⟨?n2, List.forall_mem_cons.mpr ⟨?n3, List.forall_mem_cons.mpr ⟨?n4, ?n5⟩⟩⟩)
    case n2 => k_mem
    case n3 => k_mem
    case n4 => k_mem
    case n5 => intro q hq; repeat (first | with_reducible_and_instances assumption | refine List.Mem.tail _ ?_)
  case l => refine List.forall_mem_cons.mpr ⟨?_, List.forall_mem_cons.mpr ⟨?_, hlat⟩⟩ <;> k_ne
  case m0 => first | with_reducible assumption | ((repeat (refine up_n (by decide +kernel) ?_)); first | exact up_eq | with_reducible assumption)
  case m1 => first | with_reducible assumption | ((repeat (refine up_n (by decide +kernel) ?_)); first | exact up_eq | with_reducible assumption)
  case m2 => first | with_reducible assumption | ((repeat (refine up_n (by decide +kernel) ?_)); first | exact up_eq | with_reducible assumption)
  case m3 => first | with_reducible assumption | ((repeat (refine up_n (by decide +kernel) ?_)); first | exact up_eq | with_reducible assumption)
  case m4 => first | with_reducible assumption | ((repeat (refine up_n (by decide +kernel) ?_)); first | exact up_eq | with_reducible assumption)
  case m5 => first | with_reducible assumption | ((repeat (refine up_n (by decide +kernel) ?_)); first | exact up_eq | with_reducible assumption)
  case m6 => first | with_reducible assumption | ((repeat (refine up_n (by decide +kernel) ?_)); first | exact up_eq | with_reducible assumption)
  case m7 => first | with_reducible assumption | ((repeat (refine up_n (by decide +kernel) ?_)); first | exact up_eq | with_reducible assumption)
  case m8 => first | with_reducible assumption | ((repeat (refine up_n (by decide +kernel) ?_)); first | exact up_eq | with_reducible assumption)
  case m9 => first | with_reducible assumption | ((repeat (refine up_n (by decide +kernel) ?_)); first | exact up_eq | with_reducible assumption)
  case m10 => first | with_reducible assumption | ((repeat (refine up_n (by decide +kernel) ?_)); first | exact up_eq | with_reducible assumption)
  case m11 => first | with_reducible assumption | ((repeat (refine up_n (by decide +kernel) ?_)); first | exact up_eq | with_reducible assumption)
end
section
variable {w : World} {E : Value → Shared → Prop} {hp : Heap} {gs : Array GenState} {dr : Drawn} {tk₀ : Nat} {os : OsState} {h₀ : Heap} {L fa : Addr} {cd : Value} {m mg mb : Str → Option Value} {p : Program} {loose : List Str} {mean : ExcName → Option Value} {Q : Flow → Shared → Prop} {rest : Led} {n : Nat} {told lat : Addr} {ns : List Int} {q : Int} {tq : Tok} {num ans t o e : Int} {x1 x2 la lb : Addr} {tkd tn ta tf to : Tok}
theorem law11_2 (F : Fr h₀ L hp m) (X : (KF w.params).In h₀) (N : News h₀ L hp ((lat, listOf #[.int q tq] n) :: rest)) (T : Top p loose mean mg mb h₀) (hlat : ∀ x ∈ rest, x.1 ≠ lat) (hb0 : 0 ≤ t) (hb1 : t ≤ 249) (hb2 : 0 ≤ o) (hb3 : o ≤ 249) (m0 : m (Str.ofString "told") = some (.ref told)) (m1 : m (Str.ofString "at") = some (.ref lat)) (m2 : m (Str.ofString "kind") = some (.int 2 tkd)) (m3 : m (Str.ofString "first") = some (.ref x1)) (m4 : m (Str.ofString "second") = some (.ref x2)) (m5 : m (Str.ofString "ahead") = some (.ref la)) (m6 : m (Str.ofString "number") = some (.int (416940032 + 256 * t + o) tn)) (m7 : m (Str.ofString "back") = some (.ref lb)) (m8 : m (Str.ofString "answer") = some (.int ans ta)) (m9 : m (Str.ofString "wide") = some (.bool true)) (m10 : m (Str.ofString "made") = some (.bool (true))) (m11 : m (Str.ofString "further") = some (.int 65536 tf)) (m12 : m (Str.ofString "octet") = some (.none))
    (h : ∀ (xh : Addr) (rest' : Led) h' m' tk', HalfRx w rest' xh true (416940032 + 256 * t + o) ((416940032 + 256 * t + o) + 65536) none → (∀ x ∈ rest, x ∈ rest') → (∀ x ∈ rest', x.1 ≠ lat) → Fr h₀ L h' m' → News h₀ L h' ((lat, listOf #[.int q tq] n) :: rest') → m' (Str.ofString "told") = some (.ref told) → m' (Str.ofString "at") = some (.ref lat) → m' (Str.ofString "first") = some (.ref x1) → m' (Str.ofString "second") = some (.ref x2) → m' (Str.ofString "ahead") = some (.ref la) → m' (Str.ofString "number") = some (.int (416940032 + 256 * t + o) tn) → m' (Str.ofString "back") = some (.ref lb) → m' (Str.ofString "answer") = some (.int ans ta) → m' (Str.ofString "wide") = some (.bool true) → m' (Str.ofString "further") = some (.int 65536 tf) → m' (Str.ofString "octet") = some (.none) → m' (Str.ofString "hears") = some (.ref xh) → wpAny (model PySem.Challenge.rw_ff0002_01.row.prog w) (lawA L fa cd) (execs tlL13 (envOf (Str.ofString "law") sc1192 L fa cd)) Q E ⟨h', gs, dr, tk', os⟩) :
    wpAny (model PySem.Challenge.rw_ff0002_01.row.prog w) (lawA L fa cd) (execs tlL11 (envOf (Str.ofString "law") sc1192 L fa cd)) Q E ⟨hp, gs, dr, tk₀, os⟩ := by
  rw [sgL11_eq]
  have B := below_caller h₀
  have R := lawA_room L fa cd
  w_top off
  repeat' (first | (k_unfold; (try dsimp only)) | walk1 | (dsimp only; walk1) | (leave1; try dsimp only))
  
  rename_i xh d1 es1 n1 al1 ha1 tka1 H1 fa1 lta1 ltb1 hh1 FF NN
  refine' h xh ((xh, instObj 1036 d1) :: (d1, dictOf es1 n1) :: rest) _ _ _ (halfRx (.head _) (.tail _ (.head _)) H1 fa1 (rx_cast2 ?e1 ?e2 (rx_NF29 ?c0 ?c1 ?c2 ?c3 (.head _) (.tail _ (.head _)) H1 fa1))) (fun q hq => .tail _ (.tail _ hq)) ?l ?F ?N ?m0 ?m1 ?m2 ?m3 ?m4 ?m5 ?m6 ?m7 ?m8 ?m9 ?m10 ?m11
  case F => k_asm
  case N =>
    refine' news_sub NN (List.forall_mem_cons.mpr ⟨?n2, List.forall_mem_cons.mpr ⟨?n3, List.forall_mem_cons.mpr ⟨?n4, ?n5⟩⟩⟩)
    case n2 => k_mem
    case n3 => k_mem
    case n4 => k_mem
    case n5 => intro q hq; repeat (first | with_reducible_and_instances assumption | refine List.Mem.tail _ ?_)
  case l => refine List.forall_mem_cons.mpr ⟨?_, List.forall_mem_cons.mpr ⟨?_, hlat⟩⟩ <;> k_ne
  case m0 => first | with_reducible assumption | ((repeat (refine up_n (by decide +kernel) ?_)); first | exact up_eq | with_reducible assumption)
  case m1 => first | with_reducible assumption | ((repeat (refine up_n (by decide +kernel) ?_)); first | exact up_eq | with_reducible assumption)
  case m2 => first | with_reducible assumption | ((repeat (refine up_n (by decide +kernel) ?_)); first | exact up_eq | with_reducible assumption)
  case m3 => first | with_reducible assumption | ((repeat (refine up_n (by decide +kernel) ?_)); first | exact up_eq | with_reducible assumption)
  case m4 => first | with_reducible assumption | ((repeat (refine up_n (by decide +kernel) ?_)); first | exact up_eq | with_reducible assumption)
  case m5 => first | with_reducible assumption | ((repeat (refine up_n (by decide +kernel) ?_)); first | exact up_eq | with_reducible assumption)
  case m6 => first | with_reducible assumption | ((repeat (refine up_n (by decide +kernel) ?_)); first | exact up_eq | with_reducible assumption)
  case m7 => first | with_reducible assumption | ((repeat (refine up_n (by decide +kernel) ?_)); first | exact up_eq | with_reducible assumption)
  case m8 => first | with_reducible assumption | ((repeat (refine up_n (by decide +kernel) ?_)); first | exact up_eq | with_reducible assumption)
  case m9 => first | with_reducible assumption | ((repeat (refine up_n (by decide +kernel) ?_)); first | exact up_eq | with_reducible assumption)
  case m10 => first | with_reducible assumption | ((repeat (refine up_n (by decide +kernel) ?_)); first | exact up_eq | with_reducible assumption)
  case m11 => first | with_reducible assumption | ((repeat (refine up_n (by decide +kernel) ?_)); first | exact up_eq | with_reducible assumption)
  case c0 => exact fm_lo _
  case c1 => exact fm_hi _
  case c2 => exact fm_lo _
  case c3 => exact fm_hi _
  case e1 => rw [fm256, fm256, fd256]; omega
  case e2 => rw [fm256, fm256, fd256]; omega
end
section
variable {w : World} {E : Value → Shared → Prop} {hp : Heap} {gs : Array GenState} {dr : Drawn} {tk₀ : Nat} {os : OsState} {h₀ : Heap} {L fa : Addr} {cd : Value} {m mg mb : Str → Option Value} {p : Program} {loose : List Str} {mean : ExcName → Option Value} {Q : Flow → Shared → Prop} {rest : Led} {n : Nat} {told lat : Addr} {ns : List Int} {q : Int} {tq : Tok} {num ans t o e : Int} {x1 x2 la lb : Addr} {tkd tn ta tf to : Tok}
theorem law11_3 (F : Fr h₀ L hp m) (X : (KF w.params).In h₀) (N : News h₀ L hp ((lat, listOf #[.int q tq] n) :: rest)) (T : Top p loose mean mg mb h₀) (hlat : ∀ x ∈ rest, x.1 ≠ lat) (hb0 : 0 ≤ num) (hb1 : num ≤ 2047) (hb2 : 0 ≤ t) (hb3 : t ≤ 249) (m0 : m (Str.ofString "told") = some (.ref told)) (m1 : m (Str.ofString "at") = some (.ref lat)) (m2 : m (Str.ofString "kind") = some (.int 3 tkd)) (m3 : m (Str.ofString "first") = some (.ref x1)) (m4 : m (Str.ofString "second") = some (.ref x2)) (m5 : m (Str.ofString "ahead") = some (.ref la)) (m6 : m (Str.ofString "number") = some (.int num tn)) (m7 : m (Str.ofString "back") = some (.ref lb)) (m8 : m (Str.ofString "answer") = some (.int ans ta)) (m9 : m (Str.ofString "wide") = some (.bool false)) (m10 : m (Str.ofString "made") = some (.bool (false))) (m11 : m (Str.ofString "further") = some (.int 0 tf)) (m12 : m (Str.ofString "octet") = some (.int t to))
    (h : ∀ (xh : Addr) (rest' : Led) h' m' tk', HalfRx w rest' xh false num (num + 0) (some t) → (∀ x ∈ rest, x ∈ rest') → (∀ x ∈ rest', x.1 ≠ lat) → Fr h₀ L h' m' → News h₀ L h' ((lat, listOf #[.int q tq] n) :: rest') → m' (Str.ofString "told") = some (.ref told) → m' (Str.ofString "at") = some (.ref lat) → m' (Str.ofString "first") = some (.ref x1) → m' (Str.ofString "second") = some (.ref x2) → m' (Str.ofString "ahead") = some (.ref la) → m' (Str.ofString "number") = some (.int num tn) → m' (Str.ofString "back") = some (.ref lb) → m' (Str.ofString "answer") = some (.int ans ta) → m' (Str.ofString "wide") = some (.bool false) → m' (Str.ofString "further") = some (.int 0 tf) → m' (Str.ofString "octet") = some (.int t to) → m' (Str.ofString "hears") = some (.ref xh) → wpAny (model PySem.Challenge.rw_ff0002_01.row.prog w) (lawA L fa cd) (execs tlL13 (envOf (Str.ofString "law") sc1192 L fa cd)) Q E ⟨h', gs, dr, tk', os⟩) :
    wpAny (model PySem.Challenge.rw_ff0002_01.row.prog w) (lawA L fa cd) (execs tlL11 (envOf (Str.ofString "law") sc1192 L fa cd)) Q E ⟨hp, gs, dr, tk₀, os⟩ := by
  rw [sgL11_eq]
  have B := below_caller h₀
  have R := lawA_room L fa cd
  w_top off
  repeat' (first | (k_unfold; (try dsimp only)) | walk1 | (dsimp only; walk1) | (leave1; try dsimp only))
  
  rename_i xh d1 es1 n1 al1 ha1 tka1 H1 fa1 lta1 ltb1 hh1 FF NN
  refine' h xh ((xh, instObj 1036 d1) :: (d1, dictOf es1 n1) :: rest) _ _ _ (halfRx (.head _) (.tail _ (.head _)) H1 fa1 (rx_cast (show num = num + 0 by omega) (rx_E11 (.head _) (.tail _ (.head _)) H1 fa1))) (fun q hq => .tail _ (.tail _ hq)) ?l ?F ?N ?m0 ?m1 ?m2 ?m3 ?m4 ?m5 ?m6 ?m7 ?m8 ?m9 ?m10 ?m11
  case F => k_asm
  case N =>
    refine' news_sub NN (List.forall_mem_cons.mpr ⟨?n2, List.forall_mem_cons.mpr ⟨?n3, List.forall_mem_cons.mpr ⟨?n4, ?n5⟩⟩⟩)
    case n2 => k_mem
    case n3 => k_mem
    case n4 => k_mem
    case n5 => intro q hq; repeat (first | with_reducible_and_instances assumption | refine List.Mem.tail _ ?_)
  case l => refine List.forall_mem_cons.mpr ⟨?_, List.forall_mem_cons.mpr ⟨?_, hlat⟩⟩ <;> k_ne
  case m0 => first | with_reducible assumption | ((repeat (refine up_n (by decide +kernel) ?_)); first | exact up_eq | with_reducible assumption)
  case m1 => first | with_reducible assumption | ((repeat (refine up_n (by decide +kernel) ?_)); first | exact up_eq | with_reducible assumption)
  case m2 => first | with_reducible assumption | ((repeat (refine up_n (by decide +kernel) ?_)); first | exact up_eq | with_reducible assumption)
  case m3 => first | with_reducible assumption | ((repeat (refine up_n (by decide +kernel) ?_)); first | exact up_eq | with_reducible assumption)
  case m4 => first | with_reducible assumption | ((repeat (refine up_n (by decide +kernel) ?_)); first | exact up_eq | with_reducible assumption)
  case m5 => first | with_reducible assumption | ((repeat (refine up_n (by decide +kernel) ?_)); first | exact up_eq | with_reducible assumption)
  case m6 => first | with_reducible assumption | ((repeat (refine up_n (by decide +kernel) ?_)); first | exact up_eq | with_reducible assumption)
  case m7 => first | with_reducible assumption | ((repeat (refine up_n (by decide +kernel) ?_)); first | exact up_eq | with_reducible assumption)
  case m8 => first | with_reducible assumption | ((repeat (refine up_n (by decide +kernel) ?_)); first | exact up_eq | with_reducible assumption)
  case m9 => first | with_reducible assumption | ((repeat (refine up_n (by decide +kernel) ?_)); first | exact up_eq | with_reducible assumption)
  case m10 => first | with_reducible assumption | ((repeat (refine up_n (by decide +kernel) ?_)); first | exact up_eq | with_reducible assumption)
  case m11 => first | with_reducible assumption | ((repeat (refine up_n (by decide +kernel) ?_)); first | exact up_eq | with_reducible assumption)
end
section
variable {w : World} {E : Value → Shared → Prop} {hp : Heap} {gs : Array GenState} {dr : Drawn} {tk₀ : Nat} {os : OsState} {h₀ : Heap} {L fa : Addr} {cd : Value} {m mg mb : Str → Option Value} {p : Program} {loose : List Str} {mean : ExcName → Option Value} {Q : Flow → Shared → Prop} {rest : Led} {n : Nat} {told lat : Addr} {ns : List Int} {q : Int} {tq : Tok} {num ans t o e : Int} {x1 x2 la lb : Addr} {tkd tn ta tf to : Tok}
theorem law11_4 (F : Fr h₀ L hp m) (X : (KF w.params).In h₀) (N : News h₀ L hp ((lat, listOf #[.int q tq] n) :: rest)) (T : Top p loose mean mg mb h₀) (hlat : ∀ x ∈ rest, x.1 ≠ lat) (hb0 : 0 ≤ num) (hb1 : num < 536870912) (hb2 : 0 ≤ t) (hb3 : t ≤ 249) (m0 : m (Str.ofString "told") = some (.ref told)) (m1 : m (Str.ofString "at") = some (.ref lat)) (m2 : m (Str.ofString "kind") = some (.int 4 tkd)) (m3 : m (Str.ofString "first") = some (.ref x1)) (m4 : m (Str.ofString "second") = some (.ref x2)) (m5 : m (Str.ofString "ahead") = some (.ref la)) (m6 : m (Str.ofString "number") = some (.int num tn)) (m7 : m (Str.ofString "back") = some (.ref lb)) (m8 : m (Str.ofString "answer") = some (.int ans ta)) (m9 : m (Str.ofString "wide") = some (.bool true)) (m10 : m (Str.ofString "made") = some (.bool (false))) (m11 : m (Str.ofString "further") = some (.int 0 tf)) (m12 : m (Str.ofString "octet") = some (.int t to))
    (h : ∀ (xh : Addr) (rest' : Led) h' m' tk', HalfRx w rest' xh true num (num + 0) (some t) → (∀ x ∈ rest, x ∈ rest') → (∀ x ∈ rest', x.1 ≠ lat) → Fr h₀ L h' m' → News h₀ L h' ((lat, listOf #[.int q tq] n) :: rest') → m' (Str.ofString "told") = some (.ref told) → m' (Str.ofString "at") = some (.ref lat) → m' (Str.ofString "first") = some (.ref x1) → m' (Str.ofString "second") = some (.ref x2) → m' (Str.ofString "ahead") = some (.ref la) → m' (Str.ofString "number") = some (.int num tn) → m' (Str.ofString "back") = some (.ref lb) → m' (Str.ofString "answer") = some (.int ans ta) → m' (Str.ofString "wide") = some (.bool true) → m' (Str.ofString "further") = some (.int 0 tf) → m' (Str.ofString "octet") = some (.int t to) → m' (Str.ofString "hears") = some (.ref xh) → wpAny (model PySem.Challenge.rw_ff0002_01.row.prog w) (lawA L fa cd) (execs tlL13 (envOf (Str.ofString "law") sc1192 L fa cd)) Q E ⟨h', gs, dr, tk', os⟩) :
    wpAny (model PySem.Challenge.rw_ff0002_01.row.prog w) (lawA L fa cd) (execs tlL11 (envOf (Str.ofString "law") sc1192 L fa cd)) Q E ⟨hp, gs, dr, tk₀, os⟩ := by
  rw [sgL11_eq]
  have B := below_caller h₀
  have R := lawA_room L fa cd
  w_top off
  repeat' (first | (k_unfold; (try dsimp only)) | walk1 | (dsimp only; walk1) | (leave1; try dsimp only))
  
  rename_i xh d1 es1 n1 al1 ha1 tka1 H1 fa1 lta1 ltb1 hh1 FF NN
  refine' h xh ((xh, instObj 1036 d1) :: (d1, dictOf es1 n1) :: rest) _ _ _ (halfRx (.head _) (.tail _ (.head _)) H1 fa1 (rx_cast (show num = num + 0 by omega) (rx_E29 (.head _) (.tail _ (.head _)) H1 fa1))) (fun q hq => .tail _ (.tail _ hq)) ?l ?F ?N ?m0 ?m1 ?m2 ?m3 ?m4 ?m5 ?m6 ?m7 ?m8 ?m9 ?m10 ?m11
  case F => k_asm
  case N =>
    refine' news_sub NN (List.forall_mem_cons.mpr ⟨?n2, List.forall_mem_cons.mpr ⟨?n3, List.forall_mem_cons.mpr ⟨?n4, ?n5⟩⟩⟩)
    case n2 => k_mem
    case n3 => k_mem
    case n4 => k_mem
    case n5 => intro q hq; repeat (first | with_reducible_and_instances assumption | refine List.Mem.tail _ ?_)
  case l => refine List.forall_mem_cons.mpr ⟨?_, List.forall_mem_cons.mpr ⟨?_, hlat⟩⟩ <;> k_ne
  case m0 => first | with_reducible assumption | ((repeat (refine up_n (by decide +kernel) ?_)); first | exact up_eq | with_reducible assumption)
  case m1 => first | with_reducible assumption | ((repeat (refine up_n (by decide +kernel) ?_)); first | exact up_eq | with_reducible assumption)
  case m2 => first | with_reducible assumption | ((repeat (refine up_n (by decide +kernel) ?_)); first | exact up_eq | with_reducible assumption)
  case m3 => first | with_reducible assumption | ((repeat (refine up_n (by decide +kernel) ?_)); first | exact up_eq | with_reducible assumption)
  case m4 => first | with_reducible assumption | ((repeat (refine up_n (by decide +kernel) ?_)); first | exact up_eq | with_reducible assumption)
  case m5 => first | with_reducible assumption | ((repeat (refine up_n (by decide +kernel) ?_)); first | exact up_eq | with_reducible assumption)
  case m6 => first | with_reducible assumption | ((repeat (refine up_n (by decide +kernel) ?_)); first | exact up_eq | with_reducible assumption)
  case m7 => first | with_reducible assumption | ((repeat (refine up_n (by decide +kernel) ?_)); first | exact up_eq | with_reducible assumption)
  case m8 => first | with_reducible assumption | ((repeat (refine up_n (by decide +kernel) ?_)); first | exact up_eq | with_reducible assumption)
  case m9 => first | with_reducible assumption | ((repeat (refine up_n (by decide +kernel) ?_)); first | exact up_eq | with_reducible assumption)
  case m10 => first | with_reducible assumption | ((repeat (refine up_n (by decide +kernel) ?_)); first | exact up_eq | with_reducible assumption)
  case m11 => first | with_reducible assumption | ((repeat (refine up_n (by decide +kernel) ?_)); first | exact up_eq | with_reducible assumption)
end
section
variable {w : World} {E : Value → Shared → Prop} {hp : Heap} {gs : Array GenState} {dr : Drawn} {tk₀ : Nat} {os : OsState} {h₀ : Heap} {L fa : Addr} {cd : Value} {m mg mb : Str → Option Value} {p : Program} {loose : List Str} {mean : ExcName → Option Value} {Q : Flow → Shared → Prop} {rest : Led} {n : Nat} {told lat : Addr} {ns : List Int} {q : Int} {tq : Tok} {num ans t o e : Int} {x1 x2 la lb : Addr} {tkd tn ta tf to : Tok}
theorem law11_5 (F : Fr h₀ L hp m) (X : (KF w.params).In h₀) (N : News h₀ L hp ((lat, listOf #[.int q tq] n) :: rest)) (T : Top p loose mean mg mb h₀) (hlat : ∀ x ∈ rest, x.1 ≠ lat) (hb0 : 0 ≤ num) (hb1 : num ≤ 2047) (hb2 : 0 ≤ e) (hb3 : e ≤ 255) (m0 : m (Str.ofString "told") = some (.ref told)) (m1 : m (Str.ofString "at") = some (.ref lat)) (m2 : m (Str.ofString "kind") = some (.int 5 tkd)) (m3 : m (Str.ofString "first") = some (.ref x1)) (m4 : m (Str.ofString "second") = some (.ref x2)) (m5 : m (Str.ofString "ahead") = some (.ref la)) (m6 : m (Str.ofString "number") = some (.int num tn)) (m7 : m (Str.ofString "back") = some (.ref lb)) (m8 : m (Str.ofString "answer") = some (.int ans ta)) (m9 : m (Str.ofString "wide") = some (.bool false)) (m10 : m (Str.ofString "made") = some (.bool (false))) (m11 : m (Str.ofString "further") = some (.int 0 tf)) (m12 : m (Str.ofString "octet") = some (.int e to))
    (h : ∀ (xh : Addr) (rest' : Led) h' m' tk', HalfRx w rest' xh false num (num + 0) (some e) → (∀ x ∈ rest, x ∈ rest') → (∀ x ∈ rest', x.1 ≠ lat) → Fr h₀ L h' m' → News h₀ L h' ((lat, listOf #[.int q tq] n) :: rest') → m' (Str.ofString "told") = some (.ref told) → m' (Str.ofString "at") = some (.ref lat) → m' (Str.ofString "first") = some (.ref x1) → m' (Str.ofString "second") = some (.ref x2) → m' (Str.ofString "ahead") = some (.ref la) → m' (Str.ofString "number") = some (.int num tn) → m' (Str.ofString "back") = some (.ref lb) → m' (Str.ofString "answer") = some (.int ans ta) → m' (Str.ofString "wide") = some (.bool false) → m' (Str.ofString "further") = some (.int 0 tf) → m' (Str.ofString "octet") = some (.int e to) → m' (Str.ofString "hears") = some (.ref xh) → wpAny (model PySem.Challenge.rw_ff0002_01.row.prog w) (lawA L fa cd) (execs tlL13 (envOf (Str.ofString "law") sc1192 L fa cd)) Q E ⟨h', gs, dr, tk', os⟩) :
    wpAny (model PySem.Challenge.rw_ff0002_01.row.prog w) (lawA L fa cd) (execs tlL11 (envOf (Str.ofString "law") sc1192 L fa cd)) Q E ⟨hp, gs, dr, tk₀, os⟩ := by
  rw [sgL11_eq]
  have B := below_caller h₀
  have R := lawA_room L fa cd
  w_top off
  repeat' (first | (k_unfold; (try dsimp only)) | walk1 | (dsimp only; walk1) | (leave1; try dsimp only))
  
  rename_i xh d1 es1 n1 al1 ha1 tka1 H1 fa1 lta1 ltb1 hh1 FF NN
  refine' h xh ((xh, instObj 1036 d1) :: (d1, dictOf es1 n1) :: rest) _ _ _ (halfRx (.head _) (.tail _ (.head _)) H1 fa1 (rx_cast (show num = num + 0 by omega) (rx_M11 (.head _) (.tail _ (.head _)) H1 fa1))) (fun q hq => .tail _ (.tail _ hq)) ?l ?F ?N ?m0 ?m1 ?m2 ?m3 ?m4 ?m5 ?m6 ?m7 ?m8 ?m9 ?m10 ?m11
  case F => k_asm
  case N =>
    refine' news_sub NN (List.forall_mem_cons.mpr ⟨?n2, List.forall_mem_cons.mpr ⟨?n3, List.forall_mem_cons.mpr ⟨?n4, ?n5⟩⟩⟩)
    case n2 => k_mem
    case n3 => k_mem
    case n4 => k_mem
    case n5 => intro q hq; repeat (first | with_reducible_and_instances assumption | refine List.Mem.tail _ ?_)
  case l => refine List.forall_mem_cons.mpr ⟨?_, List.forall_mem_cons.mpr ⟨?_, hlat⟩⟩ <;> k_ne
  case m0 => first | with_reducible assumption | ((repeat (refine up_n (by decide +kernel) ?_)); first | exact up_eq | with_reducible assumption)
  case m1 => first | with_reducible assumption | ((repeat (refine up_n (by decide +kernel) ?_)); first | exact up_eq | with_reducible assumption)
  case m2 => first | with_reducible assumption | ((repeat (refine up_n (by decide +kernel) ?_)); first | exact up_eq | with_reducible assumption)
  case m3 => first | with_reducible assumption | ((repeat (refine up_n (by decide +kernel) ?_)); first | exact up_eq | with_reducible assumption)
  case m4 => first | with_reducible assumption | ((repeat (refine up_n (by decide +kernel) ?_)); first | exact up_eq | with_reducible assumption)
  case m5 => first | with_reducible assumption | ((repeat (refine up_n (by decide +kernel) ?_)); first | exact up_eq | with_reducible assumption)
  case m6 => first | with_reducible assumption | ((repeat (refine up_n (by decide +kernel) ?_)); first | exact up_eq | with_reducible assumption)
  case m7 => first | with_reducible assumption | ((repeat (refine up_n (by decide +kernel) ?_)); first | exact up_eq | with_reducible assumption)
  case m8 => first | with_reducible assumption | ((repeat (refine up_n (by decide +kernel) ?_)); first | exact up_eq | with_reducible assumption)
  case m9 => first | with_reducible assumption | ((repeat (refine up_n (by decide +kernel) ?_)); first | exact up_eq | with_reducible assumption)
  case m10 => first | with_reducible assumption | ((repeat (refine up_n (by decide +kernel) ?_)); first | exact up_eq | with_reducible assumption)
  case m11 => first | with_reducible assumption | ((repeat (refine up_n (by decide +kernel) ?_)); first | exact up_eq | with_reducible assumption)
end
section
variable {w : World} {E : Value → Shared → Prop} {hp : Heap} {gs : Array GenState} {dr : Drawn} {tk₀ : Nat} {os : OsState} {h₀ : Heap} {L fa : Addr} {cd : Value} {m mg mb : Str → Option Value} {p : Program} {loose : List Str} {mean : ExcName → Option Value} {Q : Flow → Shared → Prop} {rest : Led} {n : Nat} {told lat : Addr} {ns : List Int} {q : Int} {tq : Tok} {num ans t o e : Int} {x1 x2 la lb : Addr} {tkd tn ta tf to : Tok}
theorem law11_6 (F : Fr h₀ L hp m) (X : (KF w.params).In h₀) (N : News h₀ L hp ((lat, listOf #[.int q tq] n) :: rest)) (T : Top p loose mean mg mb h₀) (hlat : ∀ x ∈ rest, x.1 ≠ lat) (hb0 : 0 ≤ t) (hb1 : t ≤ 249) (hb2 : 0 ≤ o) (hb3 : o ≤ 249) (hb4 : 0 ≤ e) (hb5 : e ≤ 255) (m0 : m (Str.ofString "told") = some (.ref told)) (m1 : m (Str.ofString "at") = some (.ref lat)) (m2 : m (Str.ofString "kind") = some (.int 6 tkd)) (m3 : m (Str.ofString "first") = some (.ref x1)) (m4 : m (Str.ofString "second") = some (.ref x2)) (m5 : m (Str.ofString "ahead") = some (.ref la)) (m6 : m (Str.ofString "number") = some (.int (416153600 + 256 * t + o) tn)) (m7 : m (Str.ofString "back") = some (.ref lb)) (m8 : m (Str.ofString "answer") = some (.int ans ta)) (m9 : m (Str.ofString "wide") = some (.bool true)) (m10 : m (Str.ofString "made") = some (.bool (true))) (m11 : m (Str.ofString "further") = some (.int (-65536) tf)) (m12 : m (Str.ofString "octet") = some (.int e to))
    (h : ∀ (xh : Addr) (rest' : Led) h' m' tk', HalfRx w rest' xh true (416153600 + 256 * t + o) ((416153600 + 256 * t + o) + (-65536)) (some e) → (∀ x ∈ rest, x ∈ rest') → (∀ x ∈ rest', x.1 ≠ lat) → Fr h₀ L h' m' → News h₀ L h' ((lat, listOf #[.int q tq] n) :: rest') → m' (Str.ofString "told") = some (.ref told) → m' (Str.ofString "at") = some (.ref lat) → m' (Str.ofString "first") = some (.ref x1) → m' (Str.ofString "second") = some (.ref x2) → m' (Str.ofString "ahead") = some (.ref la) → m' (Str.ofString "number") = some (.int (416153600 + 256 * t + o) tn) → m' (Str.ofString "back") = some (.ref lb) → m' (Str.ofString "answer") = some (.int ans ta) → m' (Str.ofString "wide") = some (.bool true) → m' (Str.ofString "further") = some (.int (-65536) tf) → m' (Str.ofString "octet") = some (.int e to) → m' (Str.ofString "hears") = some (.ref xh) → wpAny (model PySem.Challenge.rw_ff0002_01.row.prog w) (lawA L fa cd) (execs tlL13 (envOf (Str.ofString "law") sc1192 L fa cd)) Q E ⟨h', gs, dr, tk', os⟩) :
    wpAny (model PySem.Challenge.rw_ff0002_01.row.prog w) (lawA L fa cd) (execs tlL11 (envOf (Str.ofString "law") sc1192 L fa cd)) Q E ⟨hp, gs, dr, tk₀, os⟩ := by
  rw [sgL11_eq]
  have B := below_caller h₀
  have R := lawA_room L fa cd
  w_top off
  repeat' (first | (k_unfold; (try dsimp only)) | walk1 | (dsimp only; walk1) | (leave1; try dsimp only))
  
  rename_i xh d1 es1 n1 al1 ha1 tka1 H1 fa1 lta1 ltb1 hh1 FF NN
  refine' h xh ((xh, instObj 1036 d1) :: (d1, dictOf es1 n1) :: rest) _ _ _ (halfRx (.head _) (.tail _ (.head _)) H1 fa1 (rx_cast2 ?e1 ?e2 (rx_M29 ?c0 ?c1 ?c2 ?c3 (.head _) (.tail _ (.head _)) H1 fa1))) (fun q hq => .tail _ (.tail _ hq)) ?l ?F ?N ?m0 ?m1 ?m2 ?m3 ?m4 ?m5 ?m6 ?m7 ?m8 ?m9 ?m10 ?m11
  case F => k_asm
  case N =>
    refine' news_sub NN (List.forall_mem_cons.mpr ⟨?n2, List.forall_mem_cons.mpr ⟨?n3, List.forall_mem_cons.mpr ⟨?n4, ?n5⟩⟩⟩)
    case n2 => k_mem
    case n3 => k_mem
    case n4 => k_mem
    case n5 => intro q hq; repeat (first | with_reducible_and_instances assumption | refine List.Mem.tail _ ?_)
  case l => refine List.forall_mem_cons.mpr ⟨?_, List.forall_mem_cons.mpr ⟨?_, hlat⟩⟩ <;> k_ne
  case m0 => first | with_reducible assumption | ((repeat (refine up_n (by decide +kernel) ?_)); first | exact up_eq | with_reducible assumption)
  case m1 => first | with_reducible assumption | ((repeat (refine up_n (by decide +kernel) ?_)); first | exact up_eq | with_reducible assumption)
  case m2 => first | with_reducible assumption | ((repeat (refine up_n (by decide +kernel) ?_)); first | exact up_eq | with_reducible assumption)
  case m3 => first | with_reducible assumption | ((repeat (refine up_n (by decide +kernel) ?_)); first | exact up_eq | with_reducible assumption)
  case m4 => first | with_reducible assumption | ((repeat (refine up_n (by decide +kernel) ?_)); first | exact up_eq | with_reducible assumption)
  case m5 => first | with_reducible assumption | ((repeat (refine up_n (by decide +kernel) ?_)); first | exact up_eq | with_reducible assumption)
  case m6 => first | with_reducible assumption | ((repeat (refine up_n (by decide +kernel) ?_)); first | exact up_eq | with_reducible assumption)
  case m7 => first | with_reducible assumption | ((repeat (refine up_n (by decide +kernel) ?_)); first | exact up_eq | with_reducible assumption)
  case m8 => first | with_reducible assumption | ((repeat (refine up_n (by decide +kernel) ?_)); first | exact up_eq | with_reducible assumption)
  case m9 => first | with_reducible assumption | ((repeat (refine up_n (by decide +kernel) ?_)); first | exact up_eq | with_reducible assumption)
  case m10 => first | with_reducible assumption | ((repeat (refine up_n (by decide +kernel) ?_)); first | exact up_eq | with_reducible assumption)
  case m11 => first | with_reducible assumption | ((repeat (refine up_n (by decide +kernel) ?_)); first | exact up_eq | with_reducible assumption)
  case c0 => exact fm_lo _
  case c1 => exact fm_hi _
  case c2 => exact fm_lo _
  case c3 => exact fm_hi _
  case e1 => rw [fm256, fm256, fd256]; omega
  case e2 => rw [fm256, fm256, fd256]; omega
end

theorem kFill_LA2 (w : World) (h : Heap) : (KF w.params).In h → PySem.Challenge.rw_ff0002_01.row.prog = PySem.Challenge.rw_ff0002_01.row.prog → True := by
  k_fill
  exact fun _ _ => trivial
section
variable {w : World} {E : Value → Shared → Prop} {hp : Heap} {gs : Array GenState} {dr : Drawn} {tk₀ : Nat} {os : OsState} {h₀ : Heap} {L fa : Addr} {cd : Value} {m mg mb : Str → Option Value} {p : Program} {loose : List Str} {mean : ExcName → Option Value} {Q : Flow → Shared → Prop} {rest : Led} {n : Nat} {told lat : Addr} {ns : List Int} {q : Int} {tq : Tok} {num ans fur : Int} {wide : Bool} {x1 x2 la lb xh : Addr} {tn ta tf : Tok} {ov : Value}
theorem law13 (F : Fr h₀ L hp m) (X : (KF w.params).In h₀) (N : News h₀ L hp ((lat, listOf #[.int q tq] n) :: rest)) (T : Top p loose mean mg mb h₀) (hx0 : 0 < ns.length) (hx : ns.length ≤ 63) (hT : Told h₀ rest told ns) (hlat : ∀ x ∈ rest, x.1 ≠ lat) (hq : 0 ≤ q) (hq' : q ≤ 40) (m0 : m (Str.ofString "told") = some (.ref told)) (m1 : m (Str.ofString "at") = some (.ref lat)) (m2 : m (Str.ofString "first") = some (.ref x1)) (m3 : m (Str.ofString "second") = some (.ref x2)) (m4 : m (Str.ofString "ahead") = some (.ref la)) (m5 : m (Str.ofString "number") = some (.int num tn)) (m6 : m (Str.ofString "back") = some (.ref lb)) (m7 : m (Str.ofString "answer") = some (.int ans ta)) (m8 : m (Str.ofString "wide") = some (.bool wide)) (m9 : m (Str.ofString "further") = some (.int fur tf)) (m10 : m (Str.ofString "octet") = some (ov)) (m11 : m (Str.ofString "hears") = some (.ref xh))
    (h : ∀ (way : Int) (tw tq' : Tok) h' m' tk', 0 ≤ way → way < 4 → Fr h₀ L h' m' → News h₀ L h' ((lat, listOf #[.int (q + 1) tq'] n) :: rest) → m' (Str.ofString "told") = some (.ref told) → m' (Str.ofString "at") = some (.ref lat) → m' (Str.ofString "first") = some (.ref x1) → m' (Str.ofString "second") = some (.ref x2) → m' (Str.ofString "ahead") = some (.ref la) → m' (Str.ofString "number") = some (.int num tn) → m' (Str.ofString "back") = some (.ref lb) → m' (Str.ofString "answer") = some (.int ans ta) → m' (Str.ofString "wide") = some (.bool wide) → m' (Str.ofString "further") = some (.int fur tf) → m' (Str.ofString "octet") = some (ov) → m' (Str.ofString "hears") = some (.ref xh) → m' (Str.ofString "way") = some (.int way tw) → wpAny (model PySem.Challenge.rw_ff0002_01.row.prog w) (lawA L fa cd) (execs tlL14 (envOf (Str.ofString "law") sc1192 L fa cd)) Q E ⟨h', gs, dr, tk', os⟩) :
    wpAny (model PySem.Challenge.rw_ff0002_01.row.prog w) (lawA L fa cd) (execs tlL13 (envOf (Str.ofString "law") sc1192 L fa cd)) Q E ⟨hp, gs, dr, tk₀, os⟩ := by
  rw [sgL13_eq]
  have D := draws w rest told lat ns n hx0 hx hlat
  have B := below_caller h₀
  have R := lawA_room L fa cd
  w_top off
  repeat' (first | (k_unfold; (try dsimp only)) | walk1 | (dsimp only; walk1) | (leave1; try dsimp only))
  
  refine' h _ _ _ _ _ _ ?a ?b ?F ?N ?m0 ?m1 ?m2 ?m3 ?m4 ?m5 ?m6 ?m7 ?m8 ?m9 ?m10 ?m11 ?m12
  case F => k_asm
  case N => first | k_asm | (refine' news_sub ?n1 (List.forall_mem_cons.mpr ⟨?n2, ?n3⟩); (case n1 => k_asm); (case n2 => k_mem); (case n3 => intro q hq; repeat (first | with_reducible_and_instances assumption | refine List.Mem.tail _ ?_)))
  case m0 => first | with_reducible assumption | ((repeat (refine up_n (by decide +kernel) ?_)); first | exact up_eq | with_reducible assumption)
  case m1 => first | with_reducible assumption | ((repeat (refine up_n (by decide +kernel) ?_)); first | exact up_eq | with_reducible assumption)
  case m2 => first | with_reducible assumption | ((repeat (refine up_n (by decide +kernel) ?_)); first | exact up_eq | with_reducible assumption)
  case m3 => first | with_reducible assumption | ((repeat (refine up_n (by decide +kernel) ?_)); first | exact up_eq | with_reducible assumption)
  case m4 => first | with_reducible assumption | ((repeat (refine up_n (by decide +kernel) ?_)); first | exact up_eq | with_reducible assumption)
  case m5 => first | with_reducible assumption | ((repeat (refine up_n (by decide +kernel) ?_)); first | exact up_eq | with_reducible assumption)
  case m6 => first | with_reducible assumption | ((repeat (refine up_n (by decide +kernel) ?_)); first | exact up_eq | with_reducible assumption)
  case m7 => first | with_reducible assumption | ((repeat (refine up_n (by decide +kernel) ?_)); first | exact up_eq | with_reducible assumption)
  case m8 => first | with_reducible assumption | ((repeat (refine up_n (by decide +kernel) ?_)); first | exact up_eq | with_reducible assumption)
  case m9 => first | with_reducible assumption | ((repeat (refine up_n (by decide +kernel) ?_)); first | exact up_eq | with_reducible assumption)
  case m10 => first | with_reducible assumption | ((repeat (refine up_n (by decide +kernel) ?_)); first | exact up_eq | with_reducible assumption)
  case m11 => first | with_reducible assumption | ((repeat (refine up_n (by decide +kernel) ?_)); first | exact up_eq | with_reducible assumption)
  case m12 => first | with_reducible assumption | ((repeat (refine up_n (by decide +kernel) ?_)); first | exact up_eq | with_reducible assumption)
  case a => assumption
  case b => assumption
end
section
variable {w : World} {E : Value → Shared → Prop} {hp : Heap} {gs : Array GenState} {dr : Drawn} {tk₀ : Nat} {os : OsState} {h₀ : Heap} {L fa : Addr} {cd : Value} {m mg mb : Str → Option Value} {p : Program} {loose : List Str} {mean : ExcName → Option Value} {Q : Flow → Shared → Prop} {rest : Led} {n : Nat} {told lat : Addr} {ns : List Int} {q : Int} {tq : Tok} {num ans fur : Int} {wide : Bool} {x1 x2 la lb xh : Addr} {tn ta tf : Tok} {ov : Value} {way : Int} {tw : Tok}
theorem law14 (F : Fr h₀ L hp m) (X : (KF w.params).In h₀) (N : News h₀ L hp ((lat, listOf #[.int q tq] n) :: rest)) (T : Top p loose mean mg mb h₀) (hlat : ∀ x ∈ rest, x.1 ≠ lat) (hw0 : 0 ≤ way) (hw1 : way < 4) (m0 : m (Str.ofString "told") = some (.ref told)) (m1 : m (Str.ofString "at") = some (.ref lat)) (m2 : m (Str.ofString "first") = some (.ref x1)) (m3 : m (Str.ofString "second") = some (.ref x2)) (m4 : m (Str.ofString "ahead") = some (.ref la)) (m5 : m (Str.ofString "number") = some (.int num tn)) (m6 : m (Str.ofString "back") = some (.ref lb)) (m7 : m (Str.ofString "answer") = some (.int ans ta)) (m8 : m (Str.ofString "wide") = some (.bool wide)) (m9 : m (Str.ofString "further") = some (.int fur tf)) (m10 : m (Str.ofString "octet") = some (ov)) (m11 : m (Str.ofString "hears") = some (.ref xh)) (m12 : m (Str.ofString "way") = some (.int way tw))
    (h : ∀ (w29 : Bool) (sp sp2 : Int) (lo : Option Int) (xs ll : Addr) (tsp : Tok) (rest' : Led) h' m' tk', WayOk way w29 sp sp2 lo → HalfTx w rest' xs w29 sp sp2 lo → (∃ t c, (ll, listOf (lst t lo) c) ∈ rest') → (∀ x ∈ rest, x ∈ rest') → (∀ x ∈ rest', x.1 ≠ lat) → Fr h₀ L h' m' → News h₀ L h' ((lat, listOf #[.int q tq] n) :: rest') → m' (Str.ofString "told") = some (.ref told) → m' (Str.ofString "at") = some (.ref lat) → m' (Str.ofString "first") = some (.ref x1) → m' (Str.ofString "second") = some (.ref x2) → m' (Str.ofString "ahead") = some (.ref la) → m' (Str.ofString "number") = some (.int num tn) → m' (Str.ofString "back") = some (.ref lb) → m' (Str.ofString "answer") = some (.int ans ta) → m' (Str.ofString "wide") = some (.bool wide) → m' (Str.ofString "further") = some (.int fur tf) → m' (Str.ofString "octet") = some (ov) → m' (Str.ofString "hears") = some (.ref xh) → m' (Str.ofString "way") = some (.int way tw) → m' (Str.ofString "sends") = some (.ref xs) → m' (Str.ofString "lead") = some (.ref ll) → m' (Str.ofString "speaks") = some (.int sp tsp) → wpAny (model PySem.Challenge.rw_ff0002_01.row.prog w) (lawA L fa cd) (execs tlL16 (envOf (Str.ofString "law") sc1192 L fa cd)) Q E ⟨h', gs, dr, tk', os⟩) :
    wpAny (model PySem.Challenge.rw_ff0002_01.row.prog w) (lawA L fa cd) (execs tlL14 (envOf (Str.ofString "law") sc1192 L fa cd)) Q E ⟨hp, gs, dr, tk₀, os⟩ := by
  rw [sgL14_eq]
  have B := below_caller h₀
  have R := lawA_room L fa cd
  w_top off
  repeat' (first | (k_unfold; (try dsimp only)) | walk1 | (dsimp only; walk1) | (leave1; try dsimp only))
  
  · rename_i x3 d3 e3 n3 l3 a3 b3 H3 f3 u3 v3 tz x4 d4 e4 n4 l4 a4 b4 H4 f4 u4 v4 tz x5 d5 e5 n5 l5 a5 b5 H5 f5 u5 v5 tz x6 d6 e6 n6 l6 a6 b6 H6 f6 u6 v6 lS hS qS hs lA hA qA lB hB qB lC hC qC lD hD qD lO hO qO lN hN qN hT h5 h6 h7 FF NN
    refine' h true 77000 77000 (some 9) x3 lA _ ((lA, _) :: (x3, instObj 1036 d3) :: (d3, dictOf e3 n3) :: rest) _ _ _ .w0 (halfTx (.tail _ (.head _)) (.tail _ (.tail _ (.head _))) H3 f3 (tx_E29 (.tail _ (.head _)) (.tail _ (.tail _ (.head _))) H3 f3)) ⟨_, _, .head _⟩ (fun q hq => .tail _ (.tail _ (.tail _ hq))) ?l ?F ?N ?m0 ?m1 ?m2 ?m3 ?m4 ?m5 ?m6 ?m7 ?m8 ?m9 ?m10 ?m11 ?m12 ?m13 ?m14 ?m15
    case F => k_asm
    case N =>
      refine' news_sub NN (List.forall_mem_cons.mpr ⟨?n2, List.forall_mem_cons.mpr ⟨?n3, List.forall_mem_cons.mpr ⟨?n4, List.forall_mem_cons.mpr ⟨?n5, ?n6⟩⟩⟩⟩)
      case n2 => k_mem
      case n3 => k_mem
      case n4 => k_mem
      case n5 => k_mem
      case n6 => intro q hq; repeat (first | with_reducible_and_instances assumption | refine List.Mem.tail _ ?_)
    case l => refine List.forall_mem_cons.mpr ⟨?_, List.forall_mem_cons.mpr ⟨?_, List.forall_mem_cons.mpr ⟨?_, hlat⟩⟩⟩ <;> k_ne
    case m0 => first | with_reducible assumption | ((repeat (refine up_n (by decide +kernel) ?_)); first | exact up_eq | with_reducible assumption)
    case m1 => first | with_reducible assumption | ((repeat (refine up_n (by decide +kernel) ?_)); first | exact up_eq | with_reducible assumption)
    case m2 => first | with_reducible assumption | ((repeat (refine up_n (by decide +kernel) ?_)); first | exact up_eq | with_reducible assumption)
    case m3 => first | with_reducible assumption | ((repeat (refine up_n (by decide +kernel) ?_)); first | exact up_eq | with_reducible assumption)
    case m4 => first | with_reducible assumption | ((repeat (refine up_n (by decide +kernel) ?_)); first | exact up_eq | with_reducible assumption)
    case m5 => first | with_reducible assumption | ((repeat (refine up_n (by decide +kernel) ?_)); first | exact up_eq | with_reducible assumption)
    case m6 => first | with_reducible assumption | ((repeat (refine up_n (by decide +kernel) ?_)); first | exact up_eq | with_reducible assumption)
    case m7 => first | with_reducible assumption | ((repeat (refine up_n (by decide +kernel) ?_)); first | exact up_eq | with_reducible assumption)
    case m8 => first | with_reducible assumption | ((repeat (refine up_n (by decide +kernel) ?_)); first | exact up_eq | with_reducible assumption)
    case m9 => first | with_reducible assumption | ((repeat (refine up_n (by decide +kernel) ?_)); first | exact up_eq | with_reducible assumption)
    case m10 => first | with_reducible assumption | ((repeat (refine up_n (by decide +kernel) ?_)); first | exact up_eq | with_reducible assumption)
    case m11 => first | with_reducible assumption | ((repeat (refine up_n (by decide +kernel) ?_)); first | exact up_eq | with_reducible assumption)
    case m12 => first | with_reducible assumption | ((repeat (refine up_n (by decide +kernel) ?_)); first | exact up_eq | with_reducible assumption)
    case m13 => first | with_reducible assumption | ((repeat (refine up_n (by decide +kernel) ?_)); first | exact up_eq | with_reducible assumption)
    case m14 => first | with_reducible assumption | ((repeat (refine up_n (by decide +kernel) ?_)); first | exact up_eq | with_reducible assumption)
    case m15 => first | with_reducible assumption | ((repeat (refine up_n (by decide +kernel) ?_)); first | exact up_eq | with_reducible assumption)
  · rename_i x3 d3 e3 n3 l3 a3 b3 H3 f3 u3 v3 tz x4 d4 e4 n4 l4 a4 b4 H4 f4 u4 v4 tz x5 d5 e5 n5 l5 a5 b5 H5 f5 u5 v5 tz x6 d6 e6 n6 l6 a6 b6 H6 f6 u6 v6 lS hS qS hs lA hA qA lB hB qB lC hC qC lD hD qD lO hO qO lN hN qN hT h5 h6 h7 FF NN
    refine' h false 77 77 none x4 lB _ ((lB, _) :: (x4, instObj 1036 d4) :: (d4, dictOf e4 n4) :: rest) _ _ _ .w1 (halfTx (.tail _ (.head _)) (.tail _ (.tail _ (.head _))) H4 f4 (tx_N11 (.tail _ (.head _)) (.tail _ (.tail _ (.head _))) H4 f4)) ⟨0, _, .head _⟩ (fun q hq => .tail _ (.tail _ (.tail _ hq))) ?l ?F ?N ?m0 ?m1 ?m2 ?m3 ?m4 ?m5 ?m6 ?m7 ?m8 ?m9 ?m10 ?m11 ?m12 ?m13 ?m14 ?m15
    case F => k_asm
    case N =>
      refine' news_sub NN (List.forall_mem_cons.mpr ⟨?n2, List.forall_mem_cons.mpr ⟨?n3, List.forall_mem_cons.mpr ⟨?n4, List.forall_mem_cons.mpr ⟨?n5, ?n6⟩⟩⟩⟩)
      case n2 => k_mem
      case n3 => k_mem
      case n4 => k_mem
      case n5 => k_mem
      case n6 => intro q hq; repeat (first | with_reducible_and_instances assumption | refine List.Mem.tail _ ?_)
    case l => refine List.forall_mem_cons.mpr ⟨?_, List.forall_mem_cons.mpr ⟨?_, List.forall_mem_cons.mpr ⟨?_, hlat⟩⟩⟩ <;> k_ne
    case m0 => first | with_reducible assumption | ((repeat (refine up_n (by decide +kernel) ?_)); first | exact up_eq | with_reducible assumption)
    case m1 => first | with_reducible assumption | ((repeat (refine up_n (by decide +kernel) ?_)); first | exact up_eq | with_reducible assumption)
    case m2 => first | with_reducible assumption | ((repeat (refine up_n (by decide +kernel) ?_)); first | exact up_eq | with_reducible assumption)
    case m3 => first | with_reducible assumption | ((repeat (refine up_n (by decide +kernel) ?_)); first | exact up_eq | with_reducible assumption)
    case m4 => first | with_reducible assumption | ((repeat (refine up_n (by decide +kernel) ?_)); first | exact up_eq | with_reducible assumption)
    case m5 => first | with_reducible assumption | ((repeat (refine up_n (by decide +kernel) ?_)); first | exact up_eq | with_reducible assumption)
    case m6 => first | with_reducible assumption | ((repeat (refine up_n (by decide +kernel) ?_)); first | exact up_eq | with_reducible assumption)
    case m7 => first | with_reducible assumption | ((repeat (refine up_n (by decide +kernel) ?_)); first | exact up_eq | with_reducible assumption)
    case m8 => first | with_reducible assumption | ((repeat (refine up_n (by decide +kernel) ?_)); first | exact up_eq | with_reducible assumption)
    case m9 => first | with_reducible assumption | ((repeat (refine up_n (by decide +kernel) ?_)); first | exact up_eq | with_reducible assumption)
    case m10 => first | with_reducible assumption | ((repeat (refine up_n (by decide +kernel) ?_)); first | exact up_eq | with_reducible assumption)
    case m11 => first | with_reducible assumption | ((repeat (refine up_n (by decide +kernel) ?_)); first | exact up_eq | with_reducible assumption)
    case m12 => first | with_reducible assumption | ((repeat (refine up_n (by decide +kernel) ?_)); first | exact up_eq | with_reducible assumption)
    case m13 => first | with_reducible assumption | ((repeat (refine up_n (by decide +kernel) ?_)); first | exact up_eq | with_reducible assumption)
    case m14 => first | with_reducible assumption | ((repeat (refine up_n (by decide +kernel) ?_)); first | exact up_eq | with_reducible assumption)
    case m15 => first | with_reducible assumption | ((repeat (refine up_n (by decide +kernel) ?_)); first | exact up_eq | with_reducible assumption)
  · rename_i x3 d3 e3 n3 l3 a3 b3 H3 f3 u3 v3 tz x4 d4 e4 n4 l4 a4 b4 H4 f4 u4 v4 tz x5 d5 e5 n5 l5 a5 b5 H5 f5 u5 v5 tz x6 d6 e6 n6 l6 a6 b6 H6 f6 u6 v6 lS hS qS hs lA hA qA lB hB qB lC hC qC lD hD qD lO hO qO lN hN qN hT h5 h6 h7 FF NN
    refine' h true 416940804 417006340 none x5 lC _ ((lC, _) :: (x5, instObj 1036 d5) :: (d5, dictOf e5 n5) :: rest) _ _ _ .w2 (halfTx (.tail _ (.head _)) (.tail _ (.tail _ (.head _))) H5 f5 (tx_NF29 (.tail _ (.head _)) (.tail _ (.tail _ (.head _))) H5 f5)) ⟨0, _, .head _⟩ (fun q hq => .tail _ (.tail _ (.tail _ hq))) ?l ?F ?N ?m0 ?m1 ?m2 ?m3 ?m4 ?m5 ?m6 ?m7 ?m8 ?m9 ?m10 ?m11 ?m12 ?m13 ?m14 ?m15
    case F => k_asm
    case N =>
      refine' news_sub NN (List.forall_mem_cons.mpr ⟨?n2, List.forall_mem_cons.mpr ⟨?n3, List.forall_mem_cons.mpr ⟨?n4, List.forall_mem_cons.mpr ⟨?n5, ?n6⟩⟩⟩⟩)
      case n2 => k_mem
      case n3 => k_mem
      case n4 => k_mem
      case n5 => k_mem
      case n6 => intro q hq; repeat (first | with_reducible_and_instances assumption | refine List.Mem.tail _ ?_)
    case l => refine List.forall_mem_cons.mpr ⟨?_, List.forall_mem_cons.mpr ⟨?_, List.forall_mem_cons.mpr ⟨?_, hlat⟩⟩⟩ <;> k_ne
    case m0 => first | with_reducible assumption | ((repeat (refine up_n (by decide +kernel) ?_)); first | exact up_eq | with_reducible assumption)
    case m1 => first | with_reducible assumption | ((repeat (refine up_n (by decide +kernel) ?_)); first | exact up_eq | with_reducible assumption)
    case m2 => first | with_reducible assumption | ((repeat (refine up_n (by decide +kernel) ?_)); first | exact up_eq | with_reducible assumption)
    case m3 => first | with_reducible assumption | ((repeat (refine up_n (by decide +kernel) ?_)); first | exact up_eq | with_reducible assumption)
    case m4 => first | with_reducible assumption | ((repeat (refine up_n (by decide +kernel) ?_)); first | exact up_eq | with_reducible assumption)
    case m5 => first | with_reducible assumption | ((repeat (refine up_n (by decide +kernel) ?_)); first | exact up_eq | with_reducible assumption)
    case m6 => first | with_reducible assumption | ((repeat (refine up_n (by decide +kernel) ?_)); first | exact up_eq | with_reducible assumption)
    case m7 => first | with_reducible assumption | ((repeat (refine up_n (by decide +kernel) ?_)); first | exact up_eq | with_reducible assumption)
    case m8 => first | with_reducible assumption | ((repeat (refine up_n (by decide +kernel) ?_)); first | exact up_eq | with_reducible assumption)
    case m9 => first | with_reducible assumption | ((repeat (refine up_n (by decide +kernel) ?_)); first | exact up_eq | with_reducible assumption)
    case m10 => first | with_reducible assumption | ((repeat (refine up_n (by decide +kernel) ?_)); first | exact up_eq | with_reducible assumption)
    case m11 => first | with_reducible assumption | ((repeat (refine up_n (by decide +kernel) ?_)); first | exact up_eq | with_reducible assumption)
    case m12 => first | with_reducible assumption | ((repeat (refine up_n (by decide +kernel) ?_)); first | exact up_eq | with_reducible assumption)
    case m13 => first | with_reducible assumption | ((repeat (refine up_n (by decide +kernel) ?_)); first | exact up_eq | with_reducible assumption)
    case m14 => first | with_reducible assumption | ((repeat (refine up_n (by decide +kernel) ?_)); first | exact up_eq | with_reducible assumption)
    case m15 => first | with_reducible assumption | ((repeat (refine up_n (by decide +kernel) ?_)); first | exact up_eq | with_reducible assumption)
  · rename_i x3 d3 e3 n3 l3 a3 b3 H3 f3 u3 v3 tz x4 d4 e4 n4 l4 a4 b4 H4 f4 u4 v4 tz x5 d5 e5 n5 l5 a5 b5 H5 f5 u5 v5 tz x6 d6 e6 n6 l6 a6 b6 H6 f6 u6 v6 lS hS qS hs lA hA qA lB hB qB lC hC qC lD hD qD lO hO qO lN hN qN hT h5 h6 h7 FF NN
    refine' h false 78 78 (some 10) x6 lD _ ((lD, _) :: (x6, instObj 1036 d6) :: (d6, dictOf e6 n6) :: rest) _ _ _ .w3 (halfTx (.tail _ (.head _)) (.tail _ (.tail _ (.head _))) H6 f6 (tx_M11 (.tail _ (.head _)) (.tail _ (.tail _ (.head _))) H6 f6)) ⟨_, _, .head _⟩ (fun q hq => .tail _ (.tail _ (.tail _ hq))) ?l ?F ?N ?m0 ?m1 ?m2 ?m3 ?m4 ?m5 ?m6 ?m7 ?m8 ?m9 ?m10 ?m11 ?m12 ?m13 ?m14 ?m15
    case F => k_asm
    case N =>
      refine' news_sub NN (List.forall_mem_cons.mpr ⟨?n2, List.forall_mem_cons.mpr ⟨?n3, List.forall_mem_cons.mpr ⟨?n4, List.forall_mem_cons.mpr ⟨?n5, ?n6⟩⟩⟩⟩)
      case n2 => k_mem
      case n3 => k_mem
      case n4 => k_mem
      case n5 => k_mem
      case n6 => intro q hq; repeat (first | with_reducible_and_instances assumption | refine List.Mem.tail _ ?_)
    case l => refine List.forall_mem_cons.mpr ⟨?_, List.forall_mem_cons.mpr ⟨?_, List.forall_mem_cons.mpr ⟨?_, hlat⟩⟩⟩ <;> k_ne
    case m0 => first | with_reducible assumption | ((repeat (refine up_n (by decide +kernel) ?_)); first | exact up_eq | with_reducible assumption)
    case m1 => first | with_reducible assumption | ((repeat (refine up_n (by decide +kernel) ?_)); first | exact up_eq | with_reducible assumption)
    case m2 => first | with_reducible assumption | ((repeat (refine up_n (by decide +kernel) ?_)); first | exact up_eq | with_reducible assumption)
    case m3 => first | with_reducible assumption | ((repeat (refine up_n (by decide +kernel) ?_)); first | exact up_eq | with_reducible assumption)
    case m4 => first | with_reducible assumption | ((repeat (refine up_n (by decide +kernel) ?_)); first | exact up_eq | with_reducible assumption)
    case m5 => first | with_reducible assumption | ((repeat (refine up_n (by decide +kernel) ?_)); first | exact up_eq | with_reducible assumption)
    case m6 => first | with_reducible assumption | ((repeat (refine up_n (by decide +kernel) ?_)); first | exact up_eq | with_reducible assumption)
    case m7 => first | with_reducible assumption | ((repeat (refine up_n (by decide +kernel) ?_)); first | exact up_eq | with_reducible assumption)
    case m8 => first | with_reducible assumption | ((repeat (refine up_n (by decide +kernel) ?_)); first | exact up_eq | with_reducible assumption)
    case m9 => first | with_reducible assumption | ((repeat (refine up_n (by decide +kernel) ?_)); first | exact up_eq | with_reducible assumption)
    case m10 => first | with_reducible assumption | ((repeat (refine up_n (by decide +kernel) ?_)); first | exact up_eq | with_reducible assumption)
    case m11 => first | with_reducible assumption | ((repeat (refine up_n (by decide +kernel) ?_)); first | exact up_eq | with_reducible assumption)
    case m12 => first | with_reducible assumption | ((repeat (refine up_n (by decide +kernel) ?_)); first | exact up_eq | with_reducible assumption)
    case m13 => first | with_reducible assumption | ((repeat (refine up_n (by decide +kernel) ?_)); first | exact up_eq | with_reducible assumption)
    case m14 => first | with_reducible assumption | ((repeat (refine up_n (by decide +kernel) ?_)); first | exact up_eq | with_reducible assumption)
    case m15 => first | with_reducible assumption | ((repeat (refine up_n (by decide +kernel) ?_)); first | exact up_eq | with_reducible assumption)
end
section
variable {w : World} {E : Value → Shared → Prop} {hp : Heap} {gs : Array GenState} {dr : Drawn} {tk₀ : Nat} {os : OsState} {h₀ : Heap} {L fa : Addr} {cd : Value} {m mg mb : Str → Option Value} {p : Program} {loose : List Str} {mean : ExcName → Option Value} {Q : Flow → Shared → Prop} {rest : Led} {n : Nat} {told lat : Addr} {ns : List Int} {q : Int} {tq : Tok} {num ans fur sp way : Int} {wide w29 : Bool} {sp2 : Int} {lo o1 : Option Int} {x1 x2 la lb xh xs ll : Addr} {tn ta tf tw tsp : Tok} {ov : Value}
theorem law16 (F : Fr h₀ L hp m) (X : (KF w.params).In h₀) (N : News h₀ L hp ((lat, listOf #[.int q tq] n) :: rest)) (T : Top p loose mean mg mb h₀) (hlat : ∀ x ∈ rest, x.1 ≠ lat) (ht : HalfTx w rest xs w29 sp sp2 lo) (hr : HalfRx w rest xh wide num (num + fur) o1) (m0 : m (Str.ofString "told") = some (.ref told)) (m1 : m (Str.ofString "at") = some (.ref lat)) (m2 : m (Str.ofString "first") = some (.ref x1)) (m3 : m (Str.ofString "second") = some (.ref x2)) (m4 : m (Str.ofString "ahead") = some (.ref la)) (m5 : m (Str.ofString "number") = some (.int num tn)) (m6 : m (Str.ofString "back") = some (.ref lb)) (m7 : m (Str.ofString "answer") = some (.int ans ta)) (m8 : m (Str.ofString "wide") = some (.bool wide)) (m9 : m (Str.ofString "further") = some (.int fur tf)) (m10 : m (Str.ofString "octet") = some (ov)) (m11 : m (Str.ofString "hears") = some (.ref xh)) (m12 : m (Str.ofString "way") = some (.int way tw)) (m13 : m (Str.ofString "sends") = some (.ref xs)) (m14 : m (Str.ofString "lead") = some (.ref ll)) (m15 : m (Str.ofString "speaks") = some (.int sp tsp))
    (h : ∀ (xa : Addr) (rest' : Led) h' m' tk', TxOf w rest' 6 xa w29 sp sp2 lo → RxOf w rest' 6 xa wide num (num + fur) o1 → Off w rest' 6 xa (Str.ofString "is_partial_address") [] (fun v => v = .bool false) → (∀ x ∈ rest, x ∈ rest') → (∀ x ∈ rest', x.1 ≠ lat) → Fr h₀ L h' m' → News h₀ L h' ((lat, listOf #[.int q tq] n) :: rest') → m' (Str.ofString "told") = some (.ref told) → m' (Str.ofString "at") = some (.ref lat) → m' (Str.ofString "first") = some (.ref x1) → m' (Str.ofString "second") = some (.ref x2) → m' (Str.ofString "ahead") = some (.ref la) → m' (Str.ofString "number") = some (.int num tn) → m' (Str.ofString "back") = some (.ref lb) → m' (Str.ofString "answer") = some (.int ans ta) → m' (Str.ofString "wide") = some (.bool wide) → m' (Str.ofString "further") = some (.int fur tf) → m' (Str.ofString "octet") = some (ov) → m' (Str.ofString "hears") = some (.ref xh) → m' (Str.ofString "way") = some (.int way tw) → m' (Str.ofString "sends") = some (.ref xs) → m' (Str.ofString "lead") = some (.ref ll) → m' (Str.ofString "speaks") = some (.int sp tsp) → m' (Str.ofString "halves") = some (.ref xa) → wpAny (model PySem.Challenge.rw_ff0002_01.row.prog w) (lawA L fa cd) (execs tlL17 (envOf (Str.ofString "law") sc1192 L fa cd)) Q E ⟨h', gs, dr, tk', os⟩) :
    wpAny (model PySem.Challenge.rw_ff0002_01.row.prog w) (lawA L fa cd) (execs tlL16 (envOf (Str.ofString "law") sc1192 L fa cd)) Q E ⟨hp, gs, dr, tk₀, os⟩ := by
  rw [sgL16_eq]
  have B := below_caller h₀
  have R := lawA_room L fa cd
  w_top off
  repeat' (first | (k_unfold; (try dsimp only)) | walk1 | (dsimp only; walk1) | (leave1; try dsimp only))
  
  rename_i xa da es1 n1 ha1 tka1 H1 lta1 ltb1 hh1 FF NN
  have sub : ∀ q ∈ rest, q ∈ (xa, instObj 1141 da) :: (da, dictOf es1 n1) :: rest := fun q hq => .tail _ (.tail _ hq)
  refine' h xa ((xa, instObj 1141 da) :: (da, dictOf es1 n1) :: rest) _ _ _ (asym_tx (.head _) (.tail _ (.head _)) H1 (ht.t.more sub (Nat.le_refl _))) (asym_rx (.head _) (.tail _ (.head _)) H1 (hr.r.more sub (Nat.le_refl _))) (a_part w (.head _) (.tail _ (.head _)) H1) sub ?l ?F ?N ?m0 ?m1 ?m2 ?m3 ?m4 ?m5 ?m6 ?m7 ?m8 ?m9 ?m10 ?m11 ?m12 ?m13 ?m14 ?m15 ?m16
  case F => k_asm
  case N =>
    refine' news_sub NN (List.forall_mem_cons.mpr ⟨?n2, List.forall_mem_cons.mpr ⟨?n3, List.forall_mem_cons.mpr ⟨?n4, ?n5⟩⟩⟩)
    case n2 => k_mem
    case n3 => k_mem
    case n4 => k_mem
    case n5 => intro q hq; repeat (first | with_reducible_and_instances assumption | refine List.Mem.tail _ ?_)
  case l => refine List.forall_mem_cons.mpr ⟨?_, List.forall_mem_cons.mpr ⟨?_, hlat⟩⟩ <;> k_ne
  case m0 => first | with_reducible assumption | ((repeat (refine up_n (by decide +kernel) ?_)); first | exact up_eq | with_reducible assumption)
  case m1 => first | with_reducible assumption | ((repeat (refine up_n (by decide +kernel) ?_)); first | exact up_eq | with_reducible assumption)
  case m2 => first | with_reducible assumption | ((repeat (refine up_n (by decide +kernel) ?_)); first | exact up_eq | with_reducible assumption)
  case m3 => first | with_reducible assumption | ((repeat (refine up_n (by decide +kernel) ?_)); first | exact up_eq | with_reducible assumption)
  case m4 => first | with_reducible assumption | ((repeat (refine up_n (by decide +kernel) ?_)); first | exact up_eq | with_reducible assumption)
  case m5 => first | with_reducible assumption | ((repeat (refine up_n (by decide +kernel) ?_)); first | exact up_eq | with_reducible assumption)
  case m6 => first | with_reducible assumption | ((repeat (refine up_n (by decide +kernel) ?_)); first | exact up_eq | with_reducible assumption)
  case m7 => first | with_reducible assumption | ((repeat (refine up_n (by decide +kernel) ?_)); first | exact up_eq | with_reducible assumption)
  case m8 => first | with_reducible assumption | ((repeat (refine up_n (by decide +kernel) ?_)); first | exact up_eq | with_reducible assumption)
  case m9 => first | with_reducible assumption | ((repeat (refine up_n (by decide +kernel) ?_)); first | exact up_eq | with_reducible assumption)
  case m10 => first | with_reducible assumption | ((repeat (refine up_n (by decide +kernel) ?_)); first | exact up_eq | with_reducible assumption)
  case m11 => first | with_reducible assumption | ((repeat (refine up_n (by decide +kernel) ?_)); first | exact up_eq | with_reducible assumption)
  case m12 => first | with_reducible assumption | ((repeat (refine up_n (by decide +kernel) ?_)); first | exact up_eq | with_reducible assumption)
  case m13 => first | with_reducible assumption | ((repeat (refine up_n (by decide +kernel) ?_)); first | exact up_eq | with_reducible assumption)
  case m14 => first | with_reducible assumption | ((repeat (refine up_n (by decide +kernel) ?_)); first | exact up_eq | with_reducible assumption)
  case m15 => first | with_reducible assumption | ((repeat (refine up_n (by decide +kernel) ?_)); first | exact up_eq | with_reducible assumption)
  case m16 => first | with_reducible assumption | ((repeat (refine up_n (by decide +kernel) ?_)); first | exact up_eq | with_reducible assumption)
end

theorem kFill_LA3 (w : World) (h : Heap) : (KF w.params).In h → PySem.Challenge.rw_ff0002_01.row.prog = PySem.Challenge.rw_ff0002_01.row.prog → True := by
  k_fill
  exact fun _ _ => trivial
section
variable {w : World} {E : Value → Shared → Prop} {hp : Heap} {gs : Array GenState} {dr : Drawn} {tk₀ : Nat} {os : OsState} {h₀ : Heap} {L fa : Addr} {cd : Value} {m mg mb : Str → Option Value} {p : Program} {loose : List Str} {mean : ExcName → Option Value} {Q : Flow → Shared → Prop} {rest : Led} {n : Nat} {told lat : Addr} {ns : List Int} {q : Int} {tq : Tok} {num ans fur sp way : Int} {wide w29 : Bool} {sp2 : Int} {lo o1 : Option Int} {x1 x2 la lb xh xs ll : Addr} {tn ta tf tw tsp : Tok} {ov : Value} {xa : Addr}
theorem law17 (F : Fr h₀ L hp m) (X : (KF w.params).In h₀) (N : News h₀ L hp ((lat, listOf #[.int q tq] n) :: rest)) (T : Top p loose mean mg mb h₀) (hw : (way = 2 ∧ sp2 = 417006340) ∨ (way ≠ 2 ∧ sp2 = sp))
    (T1 : TxOf w rest 6 xa w29 sp sp2 lo) (R1 : RxOf w rest 6 xa wide num (num + fur) o1) (m0 : m (Str.ofString "told") = some (.ref told)) (m1 : m (Str.ofString "at") = some (.ref lat)) (m2 : m (Str.ofString "first") = some (.ref x1)) (m3 : m (Str.ofString "second") = some (.ref x2)) (m4 : m (Str.ofString "ahead") = some (.ref la)) (m5 : m (Str.ofString "number") = some (.int num tn)) (m6 : m (Str.ofString "back") = some (.ref lb)) (m7 : m (Str.ofString "answer") = some (.int ans ta)) (m8 : m (Str.ofString "wide") = some (.bool wide)) (m9 : m (Str.ofString "further") = some (.int fur tf)) (m10 : m (Str.ofString "octet") = some (ov)) (m11 : m (Str.ofString "hears") = some (.ref xh)) (m12 : m (Str.ofString "way") = some (.int way tw)) (m13 : m (Str.ofString "sends") = some (.ref xs)) (m14 : m (Str.ofString "lead") = some (.ref ll)) (m15 : m (Str.ofString "speaks") = some (.int sp tsp)) (m16 : m (Str.ofString "halves") = some (.ref xa))
    (h : ∀ h' tk', Fr h₀ L h' m → News h₀ L h' ((lat, listOf #[.int q tq] n) :: rest) → wpAny (model PySem.Challenge.rw_ff0002_01.row.prog w) (lawA L fa cd) (execs tlL18 (envOf (Str.ofString "law") sc1192 L fa cd)) Q E ⟨h', gs, dr, tk', os⟩) :
    wpAny (model PySem.Challenge.rw_ff0002_01.row.prog w) (lawA L fa cd) (execs tlL17 (envOf (Str.ofString "law") sc1192 L fa cd)) Q E ⟨hp, gs, dr, tk₀, os⟩ := by
  rw [sgL17_eq]
  rcases hw with ⟨hw, hw'⟩ | ⟨hw, hw'⟩
  all_goals (
  (try subst hw)
  subst hw'
  have B := below_caller h₀
  have R := lawA_room L fa cd
  w_top off
  repeat' (first | (k_unfold; (try dsimp only)) | walk1 | (dsimp only; walk1) | (leave1; try dsimp only))
  
  refine' h _ _ ?F ?N
  case F => k_asm
  case N => first | k_asm | (refine' news_sub ?n1 (List.forall_mem_cons.mpr ⟨?n2, ?n3⟩); (case n1 => k_asm); (case n2 => k_mem); (case n3 => intro q hq; repeat (first | with_reducible_and_instances assumption | refine List.Mem.tail _ ?_))))
end
section
variable {w : World} {E : Value → Shared → Prop} {hp : Heap} {gs : Array GenState} {dr : Drawn} {tk₀ : Nat} {os : OsState} {h₀ : Heap} {L fa : Addr} {cd : Value} {m mg mb : Str → Option Value} {p : Program} {loose : List Str} {mean : ExcName → Option Value} {Q : Flow → Shared → Prop} {rest : Led} {n : Nat} {told lat : Addr} {ns : List Int} {q : Int} {tq : Tok} {num ans fur sp way : Int} {wide w29 : Bool} {sp2 : Int} {lo o1 : Option Int} {x1 x2 la lb xh xs ll : Addr} {tn ta tf tw tsp : Tok} {ov : Value} {xa : Addr}
theorem law18 (F : Fr h₀ L hp m) (X : (KF w.params).In h₀) (N : News h₀ L hp ((lat, listOf #[.int q tq] n) :: rest)) (T : Top p loose mean mg mb h₀) (ho : ∀ j, o1 = some j → 0 ≤ j ∧ j ≤ 255) (hlo : ∀ j, lo = some j → 0 ≤ j ∧ j ≤ 255) (hov : IsO o1 ov) (hw : w29 = ([0, 2].any fun x => x == way)) (hl1 : ∃ t c, (la, listOf (lst t o1) c) ∈ rest) (hll : ∃ t c, (ll, listOf (lst t lo) c) ∈ rest)
    (T1 : TxOf w rest 6 xa w29 sp sp2 lo) (R1 : RxOf w rest 6 xa wide num (num + fur) o1) (P1 : Off w rest 6 xa (Str.ofString "is_partial_address") [] (fun v => v = .bool false)) (P2 : Off w rest 5 xh (Str.ofString "is_partial_address") [] (fun v => v = .bool true)) (P3 : Off w rest 5 xs (Str.ofString "is_partial_address") [] (fun v => v = .bool true)) (m0 : m (Str.ofString "told") = some (.ref told)) (m1 : m (Str.ofString "at") = some (.ref lat)) (m2 : m (Str.ofString "first") = some (.ref x1)) (m3 : m (Str.ofString "second") = some (.ref x2)) (m4 : m (Str.ofString "ahead") = some (.ref la)) (m5 : m (Str.ofString "number") = some (.int num tn)) (m6 : m (Str.ofString "back") = some (.ref lb)) (m7 : m (Str.ofString "answer") = some (.int ans ta)) (m8 : m (Str.ofString "wide") = some (.bool wide)) (m9 : m (Str.ofString "further") = some (.int fur tf)) (m10 : m (Str.ofString "octet") = some (ov)) (m11 : m (Str.ofString "hears") = some (.ref xh)) (m12 : m (Str.ofString "way") = some (.int way tw)) (m13 : m (Str.ofString "sends") = some (.ref xs)) (m14 : m (Str.ofString "lead") = some (.ref ll)) (m15 : m (Str.ofString "speaks") = some (.int sp tsp)) (m16 : m (Str.ofString "halves") = some (.ref xa))
    (h : ∀ h' tk', Fr h₀ L h' m → News h₀ L h' ((lat, listOf #[.int q tq] n) :: rest) → wpAny (model PySem.Challenge.rw_ff0002_01.row.prog w) (lawA L fa cd) (execs tlL21 (envOf (Str.ofString "law") sc1192 L fa cd)) Q E ⟨h', gs, dr, tk', os⟩) :
    wpAny (model PySem.Challenge.rw_ff0002_01.row.prog w) (lawA L fa cd) (execs tlL18 (envOf (Str.ofString "law") sc1192 L fa cd)) Q E ⟨hp, gs, dr, tk₀, os⟩ := by
  rw [sgL18_eq]
  obtain ⟨t1, c1, L1⟩ := hl1
  obtain ⟨t2, c2, L2⟩ := hll
  subst hw
  cases lo <;> cases o1
  all_goals (
  (try have ho' := ho _ rfl)
  (try have hlo' := hlo _ rfl)
  (first | (obtain ⟨t', hv'⟩ := hov; subst hv') | (replace hov : ov = _ := hov; subst hov))
  have B := below_caller h₀
  have R := lawA_room L fa cd
  w_top off
  repeat' (first | (k_unfold; (try dsimp only)) | walk1 | (dsimp only; walk1) | (leave1; try dsimp only))
  
  refine' h _ _ ?F ?N
  case F => k_asm
  case N => first | k_asm | (refine' news_sub ?n1 (List.forall_mem_cons.mpr ⟨?n2, ?n3⟩); (case n1 => k_asm); (case n2 => k_mem); (case n3 => intro q hq; repeat (first | with_reducible_and_instances assumption | refine List.Mem.tail _ ?_))))
end

theorem kFill_LB1 (w : World) (h : Heap) : (KF w.params).In h → PySem.Challenge.rw_ff0002_01.row.prog = PySem.Challenge.rw_ff0002_01.row.prog → True := by
  k_fill
  exact fun _ _ => trivial
section
variable {w : World} {E : Value → Shared → Prop} {hp : Heap} {gs : Array GenState} {dr : Drawn} {tk₀ : Nat} {os : OsState} {h₀ : Heap} {L fa : Addr} {cd : Value} {m mg mb : Str → Option Value} {p : Program} {loose : List Str} {mean : ExcName → Option Value} {Q : Flow → Shared → Prop} {rest : Led} {n : Nat} {told lat : Addr} {ns : List Int} {q : Int} {tq : Tok} {num ans fur kk tu b se : Int} {wide wd du : Bool} {o1 o2 ol : Option Int} {x1 x2 la lb xa ll lo' y : Addr} {tn ta tf tkk ttu tb tse : Tok}
theorem loop0 (F : Fr h₀ L hp m) (X : (KF w.params).In h₀) (N : News h₀ L hp ((lat, listOf #[.int q tq] n) :: rest)) (T : Top p loose mean mg mb h₀) (hx0 : 0 < ns.length) (hx : ns.length ≤ 63) (hT : Told h₀ rest told ns) (hlat : ∀ x ∈ rest, x.1 ≠ lat) (hq : 0 ≤ q) (hq' : q ≤ 60) (hk : 0 ≤ kk) (m0 : m (Str.ofString "told") = some (.ref told)) (m1 : m (Str.ofString "at") = some (.ref lat)) (m2 : m (Str.ofString "first") = some (.ref x1)) (m3 : m (Str.ofString "second") = some (.ref x2)) (m4 : m (Str.ofString "ahead") = some (.ref la)) (m5 : m (Str.ofString "number") = some (.int num tn)) (m6 : m (Str.ofString "back") = some (.ref lb)) (m7 : m (Str.ofString "answer") = some (.int ans ta)) (m8 : m (Str.ofString "wide") = some (.bool wide)) (m9 : m (Str.ofString "further") = some (.int fur tf)) (m10 : m (Str.ofString "halves") = some (.ref xa)) (m11 : m (Str.ofString "k") = some (.int kk tkk))
    (h : ∀ (tu : Int) (ttu : Tok) (q' : Int) (tq' : Tok) h' m' tk', 0 ≤ tu → tu < 6 → q ≤ q' → q' ≤ q + 1 → Fr h₀ L h' m' → News h₀ L h' ((lat, listOf #[.int q' tq'] n) :: rest) → m' (Str.ofString "told") = some (.ref told) → m' (Str.ofString "at") = some (.ref lat) → m' (Str.ofString "first") = some (.ref x1) → m' (Str.ofString "second") = some (.ref x2) → m' (Str.ofString "ahead") = some (.ref la) → m' (Str.ofString "number") = some (.int num tn) → m' (Str.ofString "back") = some (.ref lb) → m' (Str.ofString "answer") = some (.int ans ta) → m' (Str.ofString "wide") = some (.bool wide) → m' (Str.ofString "further") = some (.int fur tf) → m' (Str.ofString "halves") = some (.ref xa) → m' (Str.ofString "k") = some (.int kk tkk) → m' (Str.ofString "turned") = some (.int tu ttu) → wpAny (model PySem.Challenge.rw_ff0002_01.row.prog w) (lawA L fa cd) (execs tlF1 (envOf (Str.ofString "law") sc1192 L fa cd)) Q E ⟨h', gs, dr, tk', os⟩) :
    wpAny (model PySem.Challenge.rw_ff0002_01.row.prog w) (lawA L fa cd) (execs bdF (envOf (Str.ofString "law") sc1192 L fa cd)) Q E ⟨hp, gs, dr, tk₀, os⟩ := by
  rw [sgF0_eq]
  have D := draws w rest told lat ns n hx0 hx hlat
  have B := below_caller h₀
  have R := lawA_room L fa cd
  w_top off
  repeat' (first | (k_unfold; (try dsimp only)) | walk1 | (dsimp only; walk1) | (leave1; try dsimp only))
  
  all_goals (
  refine' h _ _ _ _ _ _ _ ?a ?b ?c ?d ?F ?N ?m0 ?m1 ?m2 ?m3 ?m4 ?m5 ?m6 ?m7 ?m8 ?m9 ?m10 ?m11 ?m12
  case F => k_asm
  case N => first | k_asm | (refine' news_sub ?n1 (List.forall_mem_cons.mpr ⟨?n2, ?n3⟩); (case n1 => k_asm); (case n2 => k_mem); (case n3 => intro q hq; repeat (first | with_reducible_and_instances assumption | refine List.Mem.tail _ ?_)))
  case m0 => first | with_reducible assumption | ((repeat (refine up_n (by decide +kernel) ?_)); first | exact up_eq | with_reducible assumption)
  case m1 => first | with_reducible assumption | ((repeat (refine up_n (by decide +kernel) ?_)); first | exact up_eq | with_reducible assumption)
  case m2 => first | with_reducible assumption | ((repeat (refine up_n (by decide +kernel) ?_)); first | exact up_eq | with_reducible assumption)
  case m3 => first | with_reducible assumption | ((repeat (refine up_n (by decide +kernel) ?_)); first | exact up_eq | with_reducible assumption)
  case m4 => first | with_reducible assumption | ((repeat (refine up_n (by decide +kernel) ?_)); first | exact up_eq | with_reducible assumption)
  case m5 => first | with_reducible assumption | ((repeat (refine up_n (by decide +kernel) ?_)); first | exact up_eq | with_reducible assumption)
  case m6 => first | with_reducible assumption | ((repeat (refine up_n (by decide +kernel) ?_)); first | exact up_eq | with_reducible assumption)
  case m7 => first | with_reducible assumption | ((repeat (refine up_n (by decide +kernel) ?_)); first | exact up_eq | with_reducible assumption)
  case m8 => first | with_reducible assumption | ((repeat (refine up_n (by decide +kernel) ?_)); first | exact up_eq | with_reducible assumption)
  case m9 => first | with_reducible assumption | ((repeat (refine up_n (by decide +kernel) ?_)); first | exact up_eq | with_reducible assumption)
  case m10 => first | with_reducible assumption | ((repeat (refine up_n (by decide +kernel) ?_)); first | exact up_eq | with_reducible assumption)
  case m11 => first | with_reducible assumption | ((repeat (refine up_n (by decide +kernel) ?_)); first | exact up_eq | with_reducible assumption)
  case m12 => first | with_reducible assumption | ((repeat (refine up_n (by decide +kernel) ?_)); first | exact up_eq | with_reducible assumption)
  case a => omega
  case b => omega
  case c => omega
  case d => omega)
end
section
variable {w : World} {E : Value → Shared → Prop} {hp : Heap} {gs : Array GenState} {dr : Drawn} {tk₀ : Nat} {os : OsState} {h₀ : Heap} {L fa : Addr} {cd : Value} {m mg mb : Str → Option Value} {p : Program} {loose : List Str} {mean : ExcName → Option Value} {Q : Flow → Shared → Prop} {rest : Led} {n : Nat} {told lat : Addr} {ns : List Int} {q : Int} {tq : Tok} {num ans fur kk tu b se : Int} {wide wd du : Bool} {o1 o2 ol : Option Int} {x1 x2 la lb xa ll lo' y : Addr} {tn ta tf tkk ttu tb tse : Tok}
theorem loop1 (F : Fr h₀ L hp m) (X : (KF w.params).In h₀) (N : News h₀ L hp ((lat, listOf #[.int q tq] n) :: rest)) (T : Top p loose mean mg mb h₀) (hx0 : 0 < ns.length) (hx : ns.length ≤ 63) (hT : Told h₀ rest told ns) (hlat : ∀ x ∈ rest, x.1 ≠ lat) (hq : 0 ≤ q) (hq' : q ≤ 61) (hk : 0 ≤ kk) (hb1 : 0 ≤ num ∧ num < 536870912 ∧ 0 ≤ num + fur ∧ num + fur < 536870912) (hb2 : 0 ≤ ans ∧ ans < 536870912 ∧ 0 ≤ ans + fur ∧ ans + fur < 536870912) (hl1 : ∃ t c, (la, listOf (lst t o1) c) ∈ rest) (hl2 : ∃ t c, (lb, listOf (lst t o2) c) ∈ rest) (ho1 : ∀ j, o1 = some j → 0 ≤ j ∧ j ≤ 255) (ho2 : ∀ j, o2 = some j → 0 ≤ j ∧ j ≤ 255) (m0 : m (Str.ofString "told") = some (.ref told)) (m1 : m (Str.ofString "at") = some (.ref lat)) (m2 : m (Str.ofString "first") = some (.ref x1)) (m3 : m (Str.ofString "second") = some (.ref x2)) (m4 : m (Str.ofString "ahead") = some (.ref la)) (m5 : m (Str.ofString "number") = some (.int num tn)) (m6 : m (Str.ofString "back") = some (.ref lb)) (m7 : m (Str.ofString "answer") = some (.int ans ta)) (m8 : m (Str.ofString "wide") = some (.bool wide)) (m9 : m (Str.ofString "further") = some (.int fur tf)) (m10 : m (Str.ofString "halves") = some (.ref xa)) (m11 : m (Str.ofString "k") = some (.int kk tkk)) (m12 : m (Str.ofString "turned") = some (.int tu ttu))
    (h : ∀ (b : Int) (tb : Tok) (ll : Addr) (ol : Option Int) (q' : Int) (tq' : Tok) h' m' tk', (0 ≤ b ∧ b < 536870912 ∧ 0 ≤ b + fur ∧ b + fur < 536870912) → (∃ t c, (ll, listOf (lst t ol) c) ∈ rest) → (∀ j, ol = some j → 0 ≤ j ∧ j ≤ 255) → q ≤ q' → q' ≤ q + 1 → Fr h₀ L h' m' → News h₀ L h' ((lat, listOf #[.int q' tq'] n) :: rest) → m' (Str.ofString "told") = some (.ref told) → m' (Str.ofString "at") = some (.ref lat) → m' (Str.ofString "first") = some (.ref x1) → m' (Str.ofString "second") = some (.ref x2) → m' (Str.ofString "ahead") = some (.ref la) → m' (Str.ofString "number") = some (.int num tn) → m' (Str.ofString "back") = some (.ref lb) → m' (Str.ofString "answer") = some (.int ans ta) → m' (Str.ofString "wide") = some (.bool wide) → m' (Str.ofString "further") = some (.int fur tf) → m' (Str.ofString "halves") = some (.ref xa) → m' (Str.ofString "k") = some (.int kk tkk) → m' (Str.ofString "turned") = some (.int tu ttu) → m' (Str.ofString "base") = some (.int b tb) → m' (Str.ofString "lead") = some (.ref ll) → wpAny (model PySem.Challenge.rw_ff0002_01.row.prog w) (lawA L fa cd) (execs tlF2 (envOf (Str.ofString "law") sc1192 L fa cd)) Q E ⟨h', gs, dr, tk', os⟩) :
    wpAny (model PySem.Challenge.rw_ff0002_01.row.prog w) (lawA L fa cd) (execs tlF1 (envOf (Str.ofString "law") sc1192 L fa cd)) Q E ⟨hp, gs, dr, tk₀, os⟩ := by
  rw [sgF1_eq]
  have D := draws w rest told lat ns n hx0 hx hlat
  have B := below_caller h₀
  have R := lawA_room L fa cd
  w_top off
  repeat' (first | (k_unfold; (try dsimp only)) | walk1 | (dsimp only; walk1) | (leave1; try dsimp only))
  
  all_goals (
  refine' h _ _ _ _ _ _ _ _ _ ?a ?b ?e ?c ?d ?F ?N ?m0 ?m1 ?m2 ?m3 ?m4 ?m5 ?m6 ?m7 ?m8 ?m9 ?m10 ?m11 ?m12 ?m13 ?m14
  case F => k_asm
  case N => first | k_asm | (refine' news_sub ?n1 (List.forall_mem_cons.mpr ⟨?n2, ?n3⟩); (case n1 => k_asm); (case n2 => k_mem); (case n3 => intro q hq; repeat (first | with_reducible_and_instances assumption | refine List.Mem.tail _ ?_)))
  case m0 => first | with_reducible assumption | ((repeat (refine up_n (by decide +kernel) ?_)); first | exact up_eq | with_reducible assumption)
  case m1 => first | with_reducible assumption | ((repeat (refine up_n (by decide +kernel) ?_)); first | exact up_eq | with_reducible assumption)
  case m2 => first | with_reducible assumption | ((repeat (refine up_n (by decide +kernel) ?_)); first | exact up_eq | with_reducible assumption)
  case m3 => first | with_reducible assumption | ((repeat (refine up_n (by decide +kernel) ?_)); first | exact up_eq | with_reducible assumption)
  case m4 => first | with_reducible assumption | ((repeat (refine up_n (by decide +kernel) ?_)); first | exact up_eq | with_reducible assumption)
  case m5 => first | with_reducible assumption | ((repeat (refine up_n (by decide +kernel) ?_)); first | exact up_eq | with_reducible assumption)
  case m6 => first | with_reducible assumption | ((repeat (refine up_n (by decide +kernel) ?_)); first | exact up_eq | with_reducible assumption)
  case m7 => first | with_reducible assumption | ((repeat (refine up_n (by decide +kernel) ?_)); first | exact up_eq | with_reducible assumption)
  case m8 => first | with_reducible assumption | ((repeat (refine up_n (by decide +kernel) ?_)); first | exact up_eq | with_reducible assumption)
  case m9 => first | with_reducible assumption | ((repeat (refine up_n (by decide +kernel) ?_)); first | exact up_eq | with_reducible assumption)
  case m10 => first | with_reducible assumption | ((repeat (refine up_n (by decide +kernel) ?_)); first | exact up_eq | with_reducible assumption)
  case m11 => first | with_reducible assumption | ((repeat (refine up_n (by decide +kernel) ?_)); first | exact up_eq | with_reducible assumption)
  case m12 => first | with_reducible assumption | ((repeat (refine up_n (by decide +kernel) ?_)); first | exact up_eq | with_reducible assumption)
  case m13 => first | with_reducible assumption | ((repeat (refine up_n (by decide +kernel) ?_)); first | exact up_eq | with_reducible assumption)
  case m14 => first | with_reducible assumption | ((repeat (refine up_n (by decide +kernel) ?_)); first | exact up_eq | with_reducible assumption)
  case c => omega
  case d => omega
  case a => assumption
  case b => assumption
  case e => assumption)
end
section
variable {w : World} {E : Value → Shared → Prop} {hp : Heap} {gs : Array GenState} {dr : Drawn} {tk₀ : Nat} {os : OsState} {h₀ : Heap} {L fa : Addr} {cd : Value} {m mg mb : Str → Option Value} {p : Program} {loose : List Str} {mean : ExcName → Option Value} {Q : Flow → Shared → Prop} {rest : Led} {n : Nat} {told lat : Addr} {ns : List Int} {q : Int} {tq : Tok} {num ans fur kk tu b se : Int} {wide wd du : Bool} {o1 o2 ol : Option Int} {x1 x2 la lb xa ll lo' y : Addr} {tn ta tf tkk ttu tb tse : Tok}
theorem loop2 (F : Fr h₀ L hp m) (X : (KF w.params).In h₀) (N : News h₀ L hp ((lat, listOf #[.int q tq] n) :: rest)) (T : Top p loose mean mg mb h₀) (hx0 : 0 < ns.length) (hx : ns.length ≤ 63) (hT : Told h₀ rest told ns) (hlat : ∀ x ∈ rest, x.1 ≠ lat) (hq : 0 ≤ q) (hq' : q ≤ 62) (ht0 : 0 ≤ tu) (ht1 : tu < 6) (hb : 0 ≤ b ∧ b < 536870912 ∧ 0 ≤ b + fur ∧ b + fur < 536870912) (m0 : m (Str.ofString "told") = some (.ref told)) (m1 : m (Str.ofString "at") = some (.ref lat)) (m2 : m (Str.ofString "first") = some (.ref x1)) (m3 : m (Str.ofString "second") = some (.ref x2)) (m4 : m (Str.ofString "ahead") = some (.ref la)) (m5 : m (Str.ofString "number") = some (.int num tn)) (m6 : m (Str.ofString "back") = some (.ref lb)) (m7 : m (Str.ofString "answer") = some (.int ans ta)) (m8 : m (Str.ofString "wide") = some (.bool wide)) (m9 : m (Str.ofString "further") = some (.int fur tf)) (m10 : m (Str.ofString "halves") = some (.ref xa)) (m11 : m (Str.ofString "k") = some (.int kk tkk)) (m12 : m (Str.ofString "turned") = some (.int tu ttu)) (m13 : m (Str.ofString "base") = some (.int b tb)) (m14 : m (Str.ofString "lead") = some (.ref ll))
    (h : ∀ (se : Int) (tse : Tok) (q' : Int) (tq' : Tok) h' m' tk', 0 ≤ se → se < 536870912 → q ≤ q' → q' ≤ q + 1 → Fr h₀ L h' m' → News h₀ L h' ((lat, listOf #[.int q' tq'] n) :: rest) → m' (Str.ofString "told") = some (.ref told) → m' (Str.ofString "at") = some (.ref lat) → m' (Str.ofString "first") = some (.ref x1) → m' (Str.ofString "second") = some (.ref x2) → m' (Str.ofString "ahead") = some (.ref la) → m' (Str.ofString "number") = some (.int num tn) → m' (Str.ofString "back") = some (.ref lb) → m' (Str.ofString "answer") = some (.int ans ta) → m' (Str.ofString "wide") = some (.bool wide) → m' (Str.ofString "further") = some (.int fur tf) → m' (Str.ofString "halves") = some (.ref xa) → m' (Str.ofString "k") = some (.int kk tkk) → m' (Str.ofString "turned") = some (.int tu ttu) → m' (Str.ofString "base") = some (.int b tb) → m' (Str.ofString "lead") = some (.ref ll) → m' (Str.ofString "sent") = some (.int se tse) → wpAny (model PySem.Challenge.rw_ff0002_01.row.prog w) (lawA L fa cd) (execs tlF3 (envOf (Str.ofString "law") sc1192 L fa cd)) Q E ⟨h', gs, dr, tk', os⟩) :
    wpAny (model PySem.Challenge.rw_ff0002_01.row.prog w) (lawA L fa cd) (execs tlF2 (envOf (Str.ofString "law") sc1192 L fa cd)) Q E ⟨hp, gs, dr, tk₀, os⟩ := by
  rw [sgF2_eq]
  have D := draws w rest told lat ns n hx0 hx hlat
  have B := below_caller h₀
  have R := lawA_room L fa cd
  w_top off
  repeat' (first | (k_unfold; (try dsimp only)) | walk1 | (dsimp only; walk1) | (leave1; try dsimp only))
  
  all_goals (
  refine' h _ _ _ _ _ _ _ ?a ?b ?c ?d ?F ?N ?m0 ?m1 ?m2 ?m3 ?m4 ?m5 ?m6 ?m7 ?m8 ?m9 ?m10 ?m11 ?m12 ?m13 ?m14 ?m15
  case F => k_asm
  case N => first | k_asm | (refine' news_sub ?n1 (List.forall_mem_cons.mpr ⟨?n2, ?n3⟩); (case n1 => k_asm); (case n2 => k_mem); (case n3 => intro q hq; repeat (first | with_reducible_and_instances assumption | refine List.Mem.tail _ ?_)))
  case m0 => first | with_reducible assumption | ((repeat (refine up_n (by decide +kernel) ?_)); first | exact up_eq | with_reducible assumption)
  case m1 => first | with_reducible assumption | ((repeat (refine up_n (by decide +kernel) ?_)); first | exact up_eq | with_reducible assumption)
  case m2 => first | with_reducible assumption | ((repeat (refine up_n (by decide +kernel) ?_)); first | exact up_eq | with_reducible assumption)
  case m3 => first | with_reducible assumption | ((repeat (refine up_n (by decide +kernel) ?_)); first | exact up_eq | with_reducible assumption)
  case m4 => first | with_reducible assumption | ((repeat (refine up_n (by decide +kernel) ?_)); first | exact up_eq | with_reducible assumption)
  case m5 => first | with_reducible assumption | ((repeat (refine up_n (by decide +kernel) ?_)); first | exact up_eq | with_reducible assumption)
  case m6 => first | with_reducible assumption | ((repeat (refine up_n (by decide +kernel) ?_)); first | exact up_eq | with_reducible assumption)
  case m7 => first | with_reducible assumption | ((repeat (refine up_n (by decide +kernel) ?_)); first | exact up_eq | with_reducible assumption)
  case m8 => first | with_reducible assumption | ((repeat (refine up_n (by decide +kernel) ?_)); first | exact up_eq | with_reducible assumption)
  case m9 => first | with_reducible assumption | ((repeat (refine up_n (by decide +kernel) ?_)); first | exact up_eq | with_reducible assumption)
  case m10 => first | with_reducible assumption | ((repeat (refine up_n (by decide +kernel) ?_)); first | exact up_eq | with_reducible assumption)
  case m11 => first | with_reducible assumption | ((repeat (refine up_n (by decide +kernel) ?_)); first | exact up_eq | with_reducible assumption)
  case m12 => first | with_reducible assumption | ((repeat (refine up_n (by decide +kernel) ?_)); first | exact up_eq | with_reducible assumption)
  case m13 => first | with_reducible assumption | ((repeat (refine up_n (by decide +kernel) ?_)); first | exact up_eq | with_reducible assumption)
  case m14 => first | with_reducible assumption | ((repeat (refine up_n (by decide +kernel) ?_)); first | exact up_eq | with_reducible assumption)
  case m15 => first | with_reducible assumption | ((repeat (refine up_n (by decide +kernel) ?_)); first | exact up_eq | with_reducible assumption)
  case c => omega
  case d => omega
  case a => first | omega | exact (xor_bit (by omega) (by omega) (by omega) (by omega)).1
  case b => first | omega | exact (xor_bit (by omega) (by omega) (by omega) (by omega)).2)
end
section
variable {w : World} {E : Value → Shared → Prop} {hp : Heap} {gs : Array GenState} {dr : Drawn} {tk₀ : Nat} {os : OsState} {h₀ : Heap} {L fa : Addr} {cd : Value} {m mg mb : Str → Option Value} {p : Program} {loose : List Str} {mean : ExcName → Option Value} {Q : Flow → Shared → Prop} {rest : Led} {n : Nat} {told lat : Addr} {ns : List Int} {q : Int} {tq : Tok} {num ans fur kk tu b se : Int} {wide wd du : Bool} {o1 o2 ol : Option Int} {x1 x2 la lb xa ll lo' y : Addr} {tn ta tf tkk ttu tb tse : Tok}
theorem loop3 (F : Fr h₀ L hp m) (X : (KF w.params).In h₀) (N : News h₀ L hp ((lat, listOf #[.int q tq] n) :: rest)) (T : Top p loose mean mg mb h₀)  (m0 : m (Str.ofString "told") = some (.ref told)) (m1 : m (Str.ofString "at") = some (.ref lat)) (m2 : m (Str.ofString "first") = some (.ref x1)) (m3 : m (Str.ofString "second") = some (.ref x2)) (m4 : m (Str.ofString "ahead") = some (.ref la)) (m5 : m (Str.ofString "number") = some (.int num tn)) (m6 : m (Str.ofString "back") = some (.ref lb)) (m7 : m (Str.ofString "answer") = some (.int ans ta)) (m8 : m (Str.ofString "wide") = some (.bool wide)) (m9 : m (Str.ofString "further") = some (.int fur tf)) (m10 : m (Str.ofString "halves") = some (.ref xa)) (m11 : m (Str.ofString "k") = some (.int kk tkk)) (m12 : m (Str.ofString "turned") = some (.int tu ttu)) (m13 : m (Str.ofString "base") = some (.int b tb)) (m14 : m (Str.ofString "lead") = some (.ref ll)) (m15 : m (Str.ofString "sent") = some (.int se tse))
    (h : ∀ (wd : Bool) h' m' tk', Fr h₀ L h' m' → News h₀ L h' ((lat, listOf #[.int q tq] n) :: rest) → m' (Str.ofString "told") = some (.ref told) → m' (Str.ofString "at") = some (.ref lat) → m' (Str.ofString "first") = some (.ref x1) → m' (Str.ofString "second") = some (.ref x2) → m' (Str.ofString "ahead") = some (.ref la) → m' (Str.ofString "number") = some (.int num tn) → m' (Str.ofString "back") = some (.ref lb) → m' (Str.ofString "answer") = some (.int ans ta) → m' (Str.ofString "wide") = some (.bool wide) → m' (Str.ofString "further") = some (.int fur tf) → m' (Str.ofString "halves") = some (.ref xa) → m' (Str.ofString "k") = some (.int kk tkk) → m' (Str.ofString "turned") = some (.int tu ttu) → m' (Str.ofString "base") = some (.int b tb) → m' (Str.ofString "lead") = some (.ref ll) → m' (Str.ofString "sent") = some (.int se tse) → m' (Str.ofString "width") = some (.bool wd) → wpAny (model PySem.Challenge.rw_ff0002_01.row.prog w) (lawA L fa cd) (execs tlF4 (envOf (Str.ofString "law") sc1192 L fa cd)) Q E ⟨h', gs, dr, tk', os⟩) :
    wpAny (model PySem.Challenge.rw_ff0002_01.row.prog w) (lawA L fa cd) (execs tlF3 (envOf (Str.ofString "law") sc1192 L fa cd)) Q E ⟨hp, gs, dr, tk₀, os⟩ := by
  rw [sgF3_eq]
  have B := below_caller h₀
  have R := lawA_room L fa cd
  w_top off
  repeat' (first | (k_unfold; (try dsimp only)) | walk1 | (dsimp only; walk1) | (leave1; try dsimp only))
  
  all_goals (
  refine' h _ _ _ _ ?F ?N ?m0 ?m1 ?m2 ?m3 ?m4 ?m5 ?m6 ?m7 ?m8 ?m9 ?m10 ?m11 ?m12 ?m13 ?m14 ?m15 ?m16
  case F => k_asm
  case N => first | k_asm | (refine' news_sub ?n1 (List.forall_mem_cons.mpr ⟨?n2, ?n3⟩); (case n1 => k_asm); (case n2 => k_mem); (case n3 => intro q hq; repeat (first | with_reducible_and_instances assumption | refine List.Mem.tail _ ?_)))
  case m0 => first | with_reducible assumption | ((repeat (refine up_n (by decide +kernel) ?_)); first | exact up_eq | with_reducible assumption)
  case m1 => first | with_reducible assumption | ((repeat (refine up_n (by decide +kernel) ?_)); first | exact up_eq | with_reducible assumption)
  case m2 => first | with_reducible assumption | ((repeat (refine up_n (by decide +kernel) ?_)); first | exact up_eq | with_reducible assumption)
  case m3 => first | with_reducible assumption | ((repeat (refine up_n (by decide +kernel) ?_)); first | exact up_eq | with_reducible assumption)
  case m4 => first | with_reducible assumption | ((repeat (refine up_n (by decide +kernel) ?_)); first | exact up_eq | with_reducible assumption)
  case m5 => first | with_reducible assumption | ((repeat (refine up_n (by decide +kernel) ?_)); first | exact up_eq | with_reducible assumption)
  case m6 => first | with_reducible assumption | ((repeat (refine up_n (by decide +kernel) ?_)); first | exact up_eq | with_reducible assumption)
  case m7 => first | with_reducible assumption | ((repeat (refine up_n (by decide +kernel) ?_)); first | exact up_eq | with_reducible assumption)
  case m8 => first | with_reducible assumption | ((repeat (refine up_n (by decide +kernel) ?_)); first | exact up_eq | with_reducible assumption)
  case m9 => first | with_reducible assumption | ((repeat (refine up_n (by decide +kernel) ?_)); first | exact up_eq | with_reducible assumption)
  case m10 => first | with_reducible assumption | ((repeat (refine up_n (by decide +kernel) ?_)); first | exact up_eq | with_reducible assumption)
  case m11 => first | with_reducible assumption | ((repeat (refine up_n (by decide +kernel) ?_)); first | exact up_eq | with_reducible assumption)
  case m12 => first | with_reducible assumption | ((repeat (refine up_n (by decide +kernel) ?_)); first | exact up_eq | with_reducible assumption)
  case m13 => first | with_reducible assumption | ((repeat (refine up_n (by decide +kernel) ?_)); first | exact up_eq | with_reducible assumption)
  case m14 => first | with_reducible assumption | ((repeat (refine up_n (by decide +kernel) ?_)); first | exact up_eq | with_reducible assumption)
  case m15 => first | with_reducible assumption | ((repeat (refine up_n (by decide +kernel) ?_)); first | exact up_eq | with_reducible assumption)
  case m16 => first | with_reducible assumption | ((repeat (refine up_n (by decide +kernel) ?_)); first | exact up_eq | with_reducible assumption))
end

theorem kFill_LB2 (w : World) (h : Heap) : (KF w.params).In h → PySem.Challenge.rw_ff0002_01.row.prog = PySem.Challenge.rw_ff0002_01.row.prog → True := by
  k_fill
  exact fun _ _ => trivial
section
variable {w : World} {E : Value → Shared → Prop} {hp : Heap} {gs : Array GenState} {dr : Drawn} {tk₀ : Nat} {os : OsState} {h₀ : Heap} {L fa : Addr} {cd : Value} {m mg mb : Str → Option Value} {p : Program} {loose : List Str} {mean : ExcName → Option Value} {Q : Flow → Shared → Prop} {rest : Led} {n : Nat} {told lat : Addr} {ns : List Int} {q : Int} {tq : Tok} {num ans fur kk tu b se : Int} {wide wd du : Bool} {o1 o2 ol : Option Int} {x1 x2 la lb xa ll lo' y : Addr} {tn ta tf tkk ttu tb tse : Tok}
theorem loop4 (F : Fr h₀ L hp m) (X : (KF w.params).In h₀) (N : News h₀ L hp ((lat, listOf #[.int q tq] n) :: rest)) (T : Top p loose mean mg mb h₀) (hlat : ∀ x ∈ rest, x.1 ≠ lat) (hll : ∃ t c, (ll, listOf (lst t ol) c) ∈ rest) (hol : ∀ j, ol = some j → 0 ≤ j ∧ j ≤ 255) (m0 : m (Str.ofString "told") = some (.ref told)) (m1 : m (Str.ofString "at") = some (.ref lat)) (m2 : m (Str.ofString "first") = some (.ref x1)) (m3 : m (Str.ofString "second") = some (.ref x2)) (m4 : m (Str.ofString "ahead") = some (.ref la)) (m5 : m (Str.ofString "number") = some (.int num tn)) (m6 : m (Str.ofString "back") = some (.ref lb)) (m7 : m (Str.ofString "answer") = some (.int ans ta)) (m8 : m (Str.ofString "wide") = some (.bool wide)) (m9 : m (Str.ofString "further") = some (.int fur tf)) (m10 : m (Str.ofString "halves") = some (.ref xa)) (m11 : m (Str.ofString "k") = some (.int kk tkk)) (m12 : m (Str.ofString "turned") = some (.int tu ttu)) (m13 : m (Str.ofString "base") = some (.int b tb)) (m14 : m (Str.ofString "lead") = some (.ref ll)) (m15 : m (Str.ofString "sent") = some (.int se tse)) (m16 : m (Str.ofString "width") = some (.bool wd))
    (h : ∀ (lo' : Addr) (its : List Value) (os' : List Int) (co : Nat) (rest' : Led) h' m' tk', IntsAre its os' → os'.length ≤ 3 → (∀ x ∈ os', 0 ≤ x ∧ x ≤ 255) → (lo', listOf its.toArray co) ∈ rest' → (∀ q ∈ rest, q ∈ rest') → (∀ x ∈ rest', x.1 ≠ lat) → Fr h₀ L h' m' → News h₀ L h' ((lat, listOf #[.int q tq] n) :: rest') → m' (Str.ofString "told") = some (.ref told) → m' (Str.ofString "at") = some (.ref lat) → m' (Str.ofString "first") = some (.ref x1) → m' (Str.ofString "second") = some (.ref x2) → m' (Str.ofString "ahead") = some (.ref la) → m' (Str.ofString "number") = some (.int num tn) → m' (Str.ofString "back") = some (.ref lb) → m' (Str.ofString "answer") = some (.int ans ta) → m' (Str.ofString "wide") = some (.bool wide) → m' (Str.ofString "further") = some (.int fur tf) → m' (Str.ofString "halves") = some (.ref xa) → m' (Str.ofString "k") = some (.int kk tkk) → m' (Str.ofString "turned") = some (.int tu ttu) → m' (Str.ofString "base") = some (.int b tb) → m' (Str.ofString "lead") = some (.ref ll) → m' (Str.ofString "sent") = some (.int se tse) → m' (Str.ofString "width") = some (.bool wd) → m' (Str.ofString "octets") = some (.ref lo') → wpAny (model PySem.Challenge.rw_ff0002_01.row.prog w) (lawA L fa cd) (execs tlF6 (envOf (Str.ofString "law") sc1192 L fa cd)) Q E ⟨h', gs, dr, tk', os⟩) :
    wpAny (model PySem.Challenge.rw_ff0002_01.row.prog w) (lawA L fa cd) (execs tlF4 (envOf (Str.ofString "law") sc1192 L fa cd)) Q E ⟨hp, gs, dr, tk₀, os⟩ := by
  rw [sgF4_eq]
  obtain ⟨tl, cl, hL⟩ := hll
  cases ol
  all_goals (
  (try have hol' := hol _ rfl)
  dsimp only [lst] at hL)
  all_goals (
  have B := below_caller h₀
  have R := lawA_room L fa cd
  w_top off
  repeat' (first | (k_unfold; (try dsimp only)) | walk1 | (dsimp only; walk1) | (leave1; try dsimp only)))
  
  all_goals (
  refine' h _ _ _ _ ((_, _) :: rest) _ _ _ ?i ?z ?r ?lo (fun q hq => .tail _ hq) ?l ?F ?N ?m0 ?m1 ?m2 ?m3 ?m4 ?m5 ?m6 ?m7 ?m8 ?m9 ?m10 ?m11 ?m12 ?m13 ?m14 ?m15 ?m16 ?m17
  case F => k_asm
  case m0 => first | with_reducible assumption | ((repeat (refine up_n (by decide +kernel) ?_)); first | exact up_eq | with_reducible assumption)
  case m1 => first | with_reducible assumption | ((repeat (refine up_n (by decide +kernel) ?_)); first | exact up_eq | with_reducible assumption)
  case m2 => first | with_reducible assumption | ((repeat (refine up_n (by decide +kernel) ?_)); first | exact up_eq | with_reducible assumption)
  case m3 => first | with_reducible assumption | ((repeat (refine up_n (by decide +kernel) ?_)); first | exact up_eq | with_reducible assumption)
  case m4 => first | with_reducible assumption | ((repeat (refine up_n (by decide +kernel) ?_)); first | exact up_eq | with_reducible assumption)
  case m5 => first | with_reducible assumption | ((repeat (refine up_n (by decide +kernel) ?_)); first | exact up_eq | with_reducible assumption)
  case m6 => first | with_reducible assumption | ((repeat (refine up_n (by decide +kernel) ?_)); first | exact up_eq | with_reducible assumption)
  case m7 => first | with_reducible assumption | ((repeat (refine up_n (by decide +kernel) ?_)); first | exact up_eq | with_reducible assumption)
  case m8 => first | with_reducible assumption | ((repeat (refine up_n (by decide +kernel) ?_)); first | exact up_eq | with_reducible assumption)
  case m9 => first | with_reducible assumption | ((repeat (refine up_n (by decide +kernel) ?_)); first | exact up_eq | with_reducible assumption)
  case m10 => first | with_reducible assumption | ((repeat (refine up_n (by decide +kernel) ?_)); first | exact up_eq | with_reducible assumption)
  case m11 => first | with_reducible assumption | ((repeat (refine up_n (by decide +kernel) ?_)); first | exact up_eq | with_reducible assumption)
  case m12 => first | with_reducible assumption | ((repeat (refine up_n (by decide +kernel) ?_)); first | exact up_eq | with_reducible assumption)
  case m13 => first | with_reducible assumption | ((repeat (refine up_n (by decide +kernel) ?_)); first | exact up_eq | with_reducible assumption)
  case m14 => first | with_reducible assumption | ((repeat (refine up_n (by decide +kernel) ?_)); first | exact up_eq | with_reducible assumption)
  case m15 => first | with_reducible assumption | ((repeat (refine up_n (by decide +kernel) ?_)); first | exact up_eq | with_reducible assumption)
  case m16 => first | with_reducible assumption | ((repeat (refine up_n (by decide +kernel) ?_)); first | exact up_eq | with_reducible assumption)
  case m17 => first | with_reducible assumption | ((repeat (refine up_n (by decide +kernel) ?_)); first | exact up_eq | with_reducible assumption)
  case N =>
    refine' news_sub ?n1 (List.forall_mem_cons.mpr ⟨?n2, List.forall_mem_cons.mpr ⟨?n3, ?n4⟩⟩)
    case n1 => k_asm
    case n2 => k_mem
    case n3 => k_mem
    case n4 => intro q hq; repeat (first | with_reducible_and_instances assumption | refine List.Mem.tail _ ?_)
  case lo => exact .head _
  case i => first | exact .nil | exact .cons _ _ (.cons _ _ .nil) | exact .cons _ _ (.cons _ _ (.cons _ _ .nil))
  case z => first | exact Nat.le_of_ble_eq_true rfl | decide
  case r => repeat' (first | exact List.forall_mem_nil _ | refine List.forall_mem_cons.mpr ⟨?_, ?_⟩ | exact ⟨by omega, by omega⟩ | exact ⟨fm_lo _, fm_hi _⟩ | decide)
  case l => refine List.forall_mem_cons.mpr ⟨?_, hlat⟩; k_ne)
end
section
variable {w : World} {E : Value → Shared → Prop} {hp : Heap} {gs : Array GenState} {dr : Drawn} {tk₀ : Nat} {os : OsState} {h₀ : Heap} {L fa : Addr} {cd : Value} {m mg mb : Str → Option Value} {p : Program} {loose : List Str} {mean : ExcName → Option Value} {Q : Flow → Shared → Prop} {rest : Led} {n : Nat} {told lat : Addr} {ns : List Int} {q : Int} {tq : Tok} {num ans fur kk tu b se : Int} {wide wd du : Bool} {o1 o2 ol : Option Int} {x1 x2 la lb xa ll lo' y : Addr} {tn ta tf tkk ttu tb tse : Tok}
theorem loop6 (F : Fr h₀ L hp m) (X : (KF w.params).In h₀) (N : News h₀ L hp ((lat, listOf #[.int q tq] n) :: rest)) (T : Top p loose mean mg mb h₀) {its : List Value} {os' : List Int} {co : Nat} (hi : IntsAre its os') (hz : os'.length ≤ 3) (hr : ∀ x ∈ os', 0 ≤ x ∧ x ≤ 255) (hlo : (lo', listOf its.toArray co) ∈ rest) (hlat : ∀ x ∈ rest, x.1 ≠ lat) (hl1 : ∃ t c, (la, listOf (lst t o1) c) ∈ rest) (hs0 : 0 ≤ se) (hs1 : se < 536870912) (m0 : m (Str.ofString "told") = some (.ref told)) (m1 : m (Str.ofString "at") = some (.ref lat)) (m2 : m (Str.ofString "first") = some (.ref x1)) (m3 : m (Str.ofString "second") = some (.ref x2)) (m4 : m (Str.ofString "ahead") = some (.ref la)) (m5 : m (Str.ofString "number") = some (.int num tn)) (m6 : m (Str.ofString "back") = some (.ref lb)) (m7 : m (Str.ofString "answer") = some (.int ans ta)) (m8 : m (Str.ofString "wide") = some (.bool wide)) (m9 : m (Str.ofString "further") = some (.int fur tf)) (m10 : m (Str.ofString "halves") = some (.ref xa)) (m11 : m (Str.ofString "k") = some (.int kk tkk)) (m12 : m (Str.ofString "turned") = some (.int tu ttu)) (m13 : m (Str.ofString "base") = some (.int b tb)) (m14 : m (Str.ofString "lead") = some (.ref ll)) (m15 : m (Str.ofString "sent") = some (.int se tse)) (m16 : m (Str.ofString "width") = some (.bool wd)) (m17 : m (Str.ofString "octets") = some (.ref lo'))
    (h : ∀ (y dy : Addr) (u : Tok) (du : Bool) (rest' : Led) h' m' tk', (y, msgO dy (msgS se tse (bOf os') u wd)) ∈ rest' → (dy, dictOf [] 0) ∈ rest' → du = decide (wd = wide ∧ (se = num ∨ se = num + fur) ∧ (o1 = none ∨ hd (bOf os') = o1)) → (∀ q ∈ rest, q ∈ rest') → (∀ x ∈ rest', x.1 ≠ lat) → Fr h₀ L h' m' → News h₀ L h' ((lat, listOf #[.int q tq] n) :: rest') → m' (Str.ofString "told") = some (.ref told) → m' (Str.ofString "at") = some (.ref lat) → m' (Str.ofString "first") = some (.ref x1) → m' (Str.ofString "second") = some (.ref x2) → m' (Str.ofString "ahead") = some (.ref la) → m' (Str.ofString "number") = some (.int num tn) → m' (Str.ofString "back") = some (.ref lb) → m' (Str.ofString "answer") = some (.int ans ta) → m' (Str.ofString "wide") = some (.bool wide) → m' (Str.ofString "further") = some (.int fur tf) → m' (Str.ofString "halves") = some (.ref xa) → m' (Str.ofString "k") = some (.int kk tkk) → m' (Str.ofString "turned") = some (.int tu ttu) → m' (Str.ofString "base") = some (.int b tb) → m' (Str.ofString "lead") = some (.ref ll) → m' (Str.ofString "sent") = some (.int se tse) → m' (Str.ofString "width") = some (.bool wd) → m' (Str.ofString "octets") = some (.ref lo') → m' (Str.ofString "message") = some (.ref y) → m' (Str.ofString "due") = some (.bool du) → wpAny (model PySem.Challenge.rw_ff0002_01.row.prog w) (lawA L fa cd) (execs tlF8 (envOf (Str.ofString "law") sc1192 L fa cd)) Q E ⟨h', gs, dr, tk', os⟩) :
    wpAny (model PySem.Challenge.rw_ff0002_01.row.prog w) (lawA L fa cd) (execs tlF6 (envOf (Str.ofString "law") sc1192 L fa cd)) Q E ⟨hp, gs, dr, tk₀, os⟩ := by
  rw [sgF6_eq]
  obtain ⟨tl, cl, hL⟩ := hl1
  cases o1
  all_goals (
  dsimp only [lst] at hL)
  all_goals (
  have B := below_caller h₀
  have R := lawA_room L fa cd
  w_top off
  repeat' (first | (k_unfold; (try dsimp only)) | walk1 | (dsimp only; walk1) | (leave1; try dsimp only)))
  
  all_goals (
  refine' h _ _ _ _ ((_, msgO _ _) :: (_, dictOf [] 0) :: rest) _ _ _ ?y ?dy ?du (fun q hq => .tail _ (.tail _ hq)) ?l ?F ?N ?m0 ?m1 ?m2 ?m3 ?m4 ?m5 ?m6 ?m7 ?m8 ?m9 ?m10 ?m11 ?m12 ?m13 ?m14 ?m15 ?m16 ?m17 ?m18 ?m19
  case F => k_asm
  case m0 => first | with_reducible assumption | ((repeat (refine up_n (by decide +kernel) ?_)); first | exact up_eq | with_reducible assumption)
  case m1 => first | with_reducible assumption | ((repeat (refine up_n (by decide +kernel) ?_)); first | exact up_eq | with_reducible assumption)
  case m2 => first | with_reducible assumption | ((repeat (refine up_n (by decide +kernel) ?_)); first | exact up_eq | with_reducible assumption)
  case m3 => first | with_reducible assumption | ((repeat (refine up_n (by decide +kernel) ?_)); first | exact up_eq | with_reducible assumption)
  case m4 => first | with_reducible assumption | ((repeat (refine up_n (by decide +kernel) ?_)); first | exact up_eq | with_reducible assumption)
  case m5 => first | with_reducible assumption | ((repeat (refine up_n (by decide +kernel) ?_)); first | exact up_eq | with_reducible assumption)
  case m6 => first | with_reducible assumption | ((repeat (refine up_n (by decide +kernel) ?_)); first | exact up_eq | with_reducible assumption)
  case m7 => first | with_reducible assumption | ((repeat (refine up_n (by decide +kernel) ?_)); first | exact up_eq | with_reducible assumption)
  case m8 => first | with_reducible assumption | ((repeat (refine up_n (by decide +kernel) ?_)); first | exact up_eq | with_reducible assumption)
  case m9 => first | with_reducible assumption | ((repeat (refine up_n (by decide +kernel) ?_)); first | exact up_eq | with_reducible assumption)
  case m10 => first | with_reducible assumption | ((repeat (refine up_n (by decide +kernel) ?_)); first | exact up_eq | with_reducible assumption)
  case m11 => first | with_reducible assumption | ((repeat (refine up_n (by decide +kernel) ?_)); first | exact up_eq | with_reducible assumption)
  case m12 => first | with_reducible assumption | ((repeat (refine up_n (by decide +kernel) ?_)); first | exact up_eq | with_reducible assumption)
  case m13 => first | with_reducible assumption | ((repeat (refine up_n (by decide +kernel) ?_)); first | exact up_eq | with_reducible assumption)
  case m14 => first | with_reducible assumption | ((repeat (refine up_n (by decide +kernel) ?_)); first | exact up_eq | with_reducible assumption)
  case m15 => first | with_reducible assumption | ((repeat (refine up_n (by decide +kernel) ?_)); first | exact up_eq | with_reducible assumption)
  case m16 => first | with_reducible assumption | ((repeat (refine up_n (by decide +kernel) ?_)); first | exact up_eq | with_reducible assumption)
  case m17 => first | with_reducible assumption | ((repeat (refine up_n (by decide +kernel) ?_)); first | exact up_eq | with_reducible assumption)
  case m18 => first | with_reducible assumption | ((repeat (refine up_n (by decide +kernel) ?_)); first | exact up_eq | with_reducible assumption)
  case m19 => first | with_reducible assumption | ((repeat (refine up_n (by decide +kernel) ?_)); first | exact up_eq | with_reducible assumption)
  case N =>
    refine' news_sub ?n1 (List.forall_mem_cons.mpr ⟨?n2, List.forall_mem_cons.mpr ⟨?n3, List.forall_mem_cons.mpr ⟨?n5, ?n4⟩⟩⟩)
    case n1 => k_asm
    case n2 => k_mem
    case n3 => k_mem
    case n5 => k_mem
    case n4 => intro q hq; repeat (first | with_reducible_and_instances assumption | refine List.Mem.tail _ ?_)
  case y => exact .head _
  case dy => exact .tail _ (.head _)
  case du => first | exact due1 (by assumption) | exact due2 (by assumption) | exact due3n (by assumption) (by assumption) | exact due3s (by assumption) (by assumption) hr
  case l => refine List.forall_mem_cons.mpr ⟨?_, List.forall_mem_cons.mpr ⟨?_, hlat⟩⟩ <;> k_ne)
end

theorem kFill_LB3 (w : World) (h : Heap) : (KF w.params).In h → PySem.Challenge.rw_ff0002_01.row.prog = PySem.Challenge.rw_ff0002_01.row.prog → True := by
  k_fill
  exact fun _ _ => trivial
section
variable {w : World} {E : Value → Shared → Prop} {hp : Heap} {gs : Array GenState} {dr : Drawn} {tk₀ : Nat} {os : OsState} {h₀ : Heap} {L fa : Addr} {cd : Value} {m mg mb : Str → Option Value} {p : Program} {loose : List Str} {mean : ExcName → Option Value} {Q : Flow → Shared → Prop} {rest : Led} {n : Nat} {told lat : Addr} {ns : List Int} {q : Int} {tq : Tok} {num ans fur kk tu b se : Int} {wide wd du : Bool} {o1 o2 ol : Option Int} {x1 x2 la lb xa ll lo' y : Addr} {tn ta tf tkk ttu tb tse : Tok}
theorem loop8 (F : Fr h₀ L hp m) (X : (KF w.params).In h₀) (N : News h₀ L hp ((lat, listOf #[.int q tq] n) :: rest)) (T : Top p loose mean mg mb h₀) {dy : Addr} {u : Tok} {bb : Array UInt8} (hy : (y, msgO dy (msgS se tse (bb) u wd)) ∈ rest) (hdy : (dy, dictOf [] 0) ∈ rest) (hbz : (bb).size ≤ 64) (hs0 : 0 ≤ se) (hs1 : se < 536870912) (hdu : du = decide (wd = wide ∧ (se = num ∨ se = num + fur) ∧ (o1 = none ∨ hd bb = o1))) (R2 : RxOf w rest 5 x2 wide num (num + fur) o1) (RA : RxOf w rest 6 xa wide num (num + fur) o1) (m0 : m (Str.ofString "told") = some (.ref told)) (m1 : m (Str.ofString "at") = some (.ref lat)) (m2 : m (Str.ofString "first") = some (.ref x1)) (m3 : m (Str.ofString "second") = some (.ref x2)) (m4 : m (Str.ofString "ahead") = some (.ref la)) (m5 : m (Str.ofString "number") = some (.int num tn)) (m6 : m (Str.ofString "back") = some (.ref lb)) (m7 : m (Str.ofString "answer") = some (.int ans ta)) (m8 : m (Str.ofString "wide") = some (.bool wide)) (m9 : m (Str.ofString "further") = some (.int fur tf)) (m10 : m (Str.ofString "halves") = some (.ref xa)) (m11 : m (Str.ofString "k") = some (.int kk tkk)) (m12 : m (Str.ofString "turned") = some (.int tu ttu)) (m13 : m (Str.ofString "base") = some (.int b tb)) (m14 : m (Str.ofString "lead") = some (.ref ll)) (m15 : m (Str.ofString "sent") = some (.int se tse)) (m16 : m (Str.ofString "width") = some (.bool wd)) (m17 : m (Str.ofString "octets") = some (.ref lo')) (m18 : m (Str.ofString "message") = some (.ref y)) (m19 : m (Str.ofString "due") = some (.bool du))
    (h : ∀ h' tk', Fr h₀ L h' m → News h₀ L h' ((lat, listOf #[.int q tq] n) :: rest) → True → wpAny (model PySem.Challenge.rw_ff0002_01.row.prog w) (lawA L fa cd) (execs tlF9 (envOf (Str.ofString "law") sc1192 L fa cd)) Q E ⟨h', gs, dr, tk', os⟩) :
    wpAny (model PySem.Challenge.rw_ff0002_01.row.prog w) (lawA L fa cd) (execs tlF8 (envOf (Str.ofString "law") sc1192 L fa cd)) Q E ⟨hp, gs, dr, tk₀, os⟩ := by
  rw [sgF8_eq]
  subst hdu
  have B := below_caller h₀
  have R := lawA_room L fa cd
  w_top off
  repeat' (first | (k_unfold; (try dsimp only)) | walk1 | (dsimp only; walk1) | (leave1; try dsimp only))
  
  refine' h _ _ ?F ?N trivial
  case F => k_asm
  case N => first | k_asm | (refine' news_sub ?n1 (List.forall_mem_cons.mpr ⟨?n2, ?n3⟩); (case n1 => k_asm); (case n2 => k_mem); (case n3 => intro q hq; repeat (first | with_reducible_and_instances assumption | refine List.Mem.tail _ ?_)))
end
section
variable {w : World} {E : Value → Shared → Prop} {hp : Heap} {gs : Array GenState} {dr : Drawn} {tk₀ : Nat} {os : OsState} {h₀ : Heap} {L fa : Addr} {cd : Value} {m mg mb : Str → Option Value} {p : Program} {loose : List Str} {mean : ExcName → Option Value} {Q : Flow → Shared → Prop} {rest : Led} {n : Nat} {told lat : Addr} {ns : List Int} {q : Int} {tq : Tok} {num ans fur kk tu b se : Int} {wide wd du : Bool} {o1 o2 ol : Option Int} {x1 x2 la lb xa ll lo' y : Addr} {tn ta tf tkk ttu tb tse : Tok} {its : List Value} {os' : List Int} {co : Nat}
theorem loop9 (hi : IntsAre its os') (hz : os'.length ≤ 3) (hr : ∀ x ∈ os', 0 ≤ x ∧ x ≤ 255) (hlo : (lo', listOf its.toArray co) ∈ rest) {dy : Addr} {u : Tok} {bb : Array UInt8} (F : Fr h₀ L hp m) (X : (KF w.params).In h₀) (N : News h₀ L hp ((lat, listOf #[.int q tq] n) :: rest)) (T : Top p loose mean mg mb h₀) (hy : (y, msgO dy (msgS se tse (bOf os') u wd)) ∈ rest) (hdy : (dy, dictOf [] 0) ∈ rest) (hbz : (bOf os').size ≤ 64) (hs0 : 0 ≤ se) (hs1 : se < 536870912) (hl2 : ∃ t c, (lb, listOf (lst t o2) c) ∈ rest) (R1 : RxOf w rest 5 x1 wide ans (ans + fur) o2) (m0 : m (Str.ofString "told") = some (.ref told)) (m1 : m (Str.ofString "at") = some (.ref lat)) (m2 : m (Str.ofString "first") = some (.ref x1)) (m3 : m (Str.ofString "second") = some (.ref x2)) (m4 : m (Str.ofString "ahead") = some (.ref la)) (m5 : m (Str.ofString "number") = some (.int num tn)) (m6 : m (Str.ofString "back") = some (.ref lb)) (m7 : m (Str.ofString "answer") = some (.int ans ta)) (m8 : m (Str.ofString "wide") = some (.bool wide)) (m9 : m (Str.ofString "further") = some (.int fur tf)) (m10 : m (Str.ofString "halves") = some (.ref xa)) (m11 : m (Str.ofString "k") = some (.int kk tkk)) (m12 : m (Str.ofString "turned") = some (.int tu ttu)) (m13 : m (Str.ofString "base") = some (.int b tb)) (m14 : m (Str.ofString "lead") = some (.ref ll)) (m15 : m (Str.ofString "sent") = some (.int se tse)) (m16 : m (Str.ofString "width") = some (.bool wd)) (m17 : m (Str.ofString "octets") = some (.ref lo')) (m18 : m (Str.ofString "message") = some (.ref y)) (m19 : m (Str.ofString "due") = some (.bool du))
    (h : ∀ h' tk', Fr h₀ L h' m → News h₀ L h' ((lat, listOf #[.int q tq] n) :: rest) → Q .next ⟨h', gs, dr, tk', os⟩) :
    wpAny (model PySem.Challenge.rw_ff0002_01.row.prog w) (lawA L fa cd) (execs tlF9 (envOf (Str.ofString "law") sc1192 L fa cd)) Q E ⟨hp, gs, dr, tk₀, os⟩ := by
  rw [sgF9_eq]
  obtain ⟨tl, cl, hL⟩ := hl2
  cases o2
  all_goals (
  dsimp only [lst] at hL)
  all_goals (
  have B := below_caller h₀
  have R := lawA_room L fa cd
  w_top off
  repeat' (first | (k_unfold; (try dsimp only)) | walk1 | (dsimp only; walk1) | (leave1; try dsimp only)))
  
  all_goals (
  refine' h _ _ ?F ?N
  case F => k_asm
  case N => first | k_asm | (refine' news_sub ?n1 (List.forall_mem_cons.mpr ⟨?n2, ?n3⟩); (case n1 => k_asm); (case n2 => k_mem); (case n3 => intro q hq; repeat (first | with_reducible_and_instances assumption | refine List.Mem.tail _ ?_))))
end

theorem kFill_LT (w : World) (h : Heap) : (KF w.params).In h → PySem.Challenge.rw_ff0002_01.row.prog = PySem.Challenge.rw_ff0002_01.row.prog → True := by
  k_fill
  exact fun _ _ => trivial
section
variable {w : World} {E : Value → Shared → Prop} {hp : Heap} {gs : Array GenState} {dr : Drawn} {tk₀ : Nat} {os : OsState} {h₀ : Heap} {L fa : Addr} {cd : Value} {m mg mb : Str → Option Value} {p : Program} {loose : List Str} {mean : ExcName → Option Value} {Q : Flow → Shared → Prop} {rest : Led} {n : Nat} {told lat : Addr} {ns : List Int} {q : Int} {tq : Tok} {Q' : Value → Shared → Prop}
theorem range21 (F : Fr h₀ L hp m) (X : (KF w.params).In h₀) (N : News h₀ L hp ((lat, listOf #[.int q tq] n) :: rest)) (T : Top p loose mean mg mb h₀) (hx0 : 0 < ns.length) (hx : ns.length ≤ 63) (hT : Told h₀ rest told ns) (hlat : ∀ x ∈ rest, x.1 ≠ lat) (hq : 0 ≤ q) (hq' : q ≤ 40) (m0 : m (Str.ofString "told") = some (.ref told)) (m1 : m (Str.ofString "at") = some (.ref lat))
    (h : ∀ (r : Addr) (v : Int) (a b c tq' : Tok) h' tk', 0 ≤ v → v < 6 → IsRange h' r 0 (2 + v) 1 a b c → Fr h₀ L h' m → News h₀ L h' ((lat, listOf #[.int (q + 1) tq'] n) :: rest) → Q' (.ref r) ⟨h', gs, dr, tk', os⟩) :
    wpAny (model PySem.Challenge.rw_ff0002_01.row.prog w) (lawA L fa cd) (eval itF (envOf (Str.ofString "law") sc1192 L fa cd)) Q' E ⟨hp, gs, dr, tk₀, os⟩ := by
  have D := draws w rest told lat ns n hx0 hx hlat
  have B := below_caller h₀
  have R := lawA_room L fa cd
  w_top off
  repeat' (first | (k_unfold; (try dsimp only)) | walk1 | (dsimp only; walk1) | (leave1; try dsimp only))
  
  exact h _ _ _ _ _ _ _ _ (by assumption) (by assumption) (by assumption) (by k_asm) (by k_asm)
end
section
variable {w : World} {E : Value → Shared → Prop} {hp : Heap} {gs : Array GenState} {dr : Drawn} {tk₀ : Nat} {os : OsState} {h₀ : Heap} {L fa : Addr} {cd : Value} {m mg mb : Str → Option Value} {p : Program} {loose : List Str} {mean : ExcName → Option Value} {Q : Flow → Shared → Prop} {rest : Led} {n : Nat} {told lat : Addr} {ns : List Int} {q : Int} {tq : Tok}
theorem law22 (F : Fr h₀ L hp m) (X : (KF w.params).In h₀) (N : News h₀ L hp ((lat, listOf #[.int q tq] n) :: rest)) (T : Top p loose mean mg mb h₀) (h : ∀ h' m' tk', Fr h₀ L h' m' → Q (.ret (.bool true)) ⟨h', gs, dr, tk', os⟩) :
    wpAny (model PySem.Challenge.rw_ff0002_01.row.prog w) (lawA L fa cd) (execs tlL22 (envOf (Str.ofString "law") sc1192 L fa cd)) Q E ⟨hp, gs, dr, tk₀, os⟩ := by
  rw [sgL22_eq]
  have B := below_caller h₀
  have R := lawA_room L fa cd
  w_top off
  repeat' (first | (k_unfold; (try dsimp only)) | walk1 | (dsimp only; walk1) | (leave1; try dsimp only))
  
  exact h _ _ _ (by k_asm)
end

end
structure LF (m : Str → Option Value) (told lat x1 x2 la lb xa : Addr) (num ans fur : Int) (wide : Bool) (tn ta tf : Tok) : Prop where
  f0 : m (Str.ofString "told") = some (.ref told)
  f1 : m (Str.ofString "at") = some (.ref lat)
  f2 : m (Str.ofString "first") = some (.ref x1)
  f3 : m (Str.ofString "second") = some (.ref x2)
  f4 : m (Str.ofString "ahead") = some (.ref la)
  f5 : m (Str.ofString "number") = some (.int num tn)
  f6 : m (Str.ofString "back") = some (.ref lb)
  f7 : m (Str.ofString "answer") = some (.int ans ta)
  f8 : m (Str.ofString "wide") = some (.bool wide)
  f9 : m (Str.ofString "further") = some (.int fur tf)
  f10 : m (Str.ofString "halves") = some (.ref xa)
structure LH (w : World) (rest : Led) (x1 x2 la lb xa : Addr) (num ans fur : Int) (wide : Bool) (o1 o2 : Option Int) : Prop where
  b1 : 0 ≤ num ∧ num < 536870912 ∧ 0 ≤ num + fur ∧ num + fur < 536870912
  b2 : 0 ≤ ans ∧ ans < 536870912 ∧ 0 ≤ ans + fur ∧ ans + fur < 536870912
  l1 : ∃ t c, (la, listOf (lst t o1) c) ∈ rest
  l2 : ∃ t c, (lb, listOf (lst t o2) c) ∈ rest
  p1 : ∀ j, o1 = some j → 0 ≤ j ∧ j ≤ 255
  p2 : ∀ j, o2 = some j → 0 ≤ j ∧ j ≤ 255
  r1 : RxOf w rest 5 x1 wide ans (ans + fur) o2
  r2 : RxOf w rest 5 x2 wide num (num + fur) o1
  ra : RxOf w rest 6 xa wide num (num + fur) o1
section
variable {l : Addr} {o : Option Int} {rest rest' : Led}
theorem lex (h : ∃ t c, (l, listOf (lst t o) c) ∈ rest) (hs : ∀ q ∈ rest, q ∈ rest') : ∃ t c, (l, listOf (lst t o) c) ∈ rest' := let ⟨t, c, x⟩ := h; ⟨t, c, hs _ x⟩
end
section
variable {w : World} {rest rest' : Led} {x1 x2 la lb xa : Addr} {num ans fur : Int} {wide : Bool} {o1 o2 : Option Int}
theorem LH.more (H : LH w rest x1 x2 la lb xa num ans fur wide o1 o2) (hs : ∀ q ∈ rest, q ∈ rest') : LH w rest' x1 x2 la lb xa num ans fur wide o1 o2 :=
  ⟨H.b1, H.b2, lex H.l1 hs, lex H.l2 hs, H.p1, H.p2, H.r1.more hs (Nat.le_refl _), H.r2.more hs (Nat.le_refl _), H.ra.more hs (Nat.le_refl _)⟩
end
section
variable {w : World} {E : Value → Shared → Prop} {hp : Heap} {gs : Array GenState} {dr : Drawn} {tk₀ : Nat} {os : OsState} {h₀ : Heap} {L fa : Addr} {cd : Value} {m mg mb : Str → Option Value} {p : Program} {loose : List Str} {mean : ExcName → Option Value} {Q : Flow → Shared → Prop} {rest : Led} {n : Nat} {told lat : Addr} {ns : List Int} {q : Int} {tq : Tok} {num ans fur kk : Int} {wide : Bool} {o1 o2 : Option Int} {x1 x2 la lb xa : Addr} {tn ta tf tkk : Tok}
theorem loopBody (F : Fr h₀ L hp m) (X : (KF w.params).In h₀) (N : News h₀ L hp ((lat, listOf #[.int q tq] n) :: rest)) (T : Top p loose mean mg mb h₀) (hx0 : 0 < ns.length) (hx : ns.length ≤ 63) (hT : Told h₀ rest told ns) (hlat : ∀ x ∈ rest, x.1 ≠ lat) (hq : 0 ≤ q) (hq' : q ≤ 58) (hk : 0 ≤ kk) (H : LH w rest x1 x2 la lb xa num ans fur wide o1 o2) (f : LF m told lat x1 x2 la lb xa num ans fur wide tn ta tf) (mk : m (Str.ofString "k") = some (.int kk tkk))
    (hfin : ∀ q' tq' rest' h' m' tk', 0 ≤ q' → q' ≤ q + 3 → (∀ x ∈ rest, x ∈ rest') → LF m' told lat x1 x2 la lb xa num ans fur wide tn ta tf → Fr h₀ L h' m' → News h₀ L h' ((lat, listOf #[.int q' tq'] n) :: rest') → Q .next ⟨h', gs, dr, tk', os⟩) :
    wpAny (model PySem.Challenge.rw_ff0002_01.row.prog w) (lawA L fa cd) (execs bdF (envOf (Str.ofString "law") sc1192 L fa cd)) Q E ⟨hp, gs, dr, tk₀, os⟩ := by
  refine loop0 F X N T hx0 hx hT hlat hq (by omega) hk f.f0 f.f1 f.f2 f.f3 f.f4 f.f5 f.f6 f.f7 f.f8 f.f9 f.f10 mk ?_
  intro tu ttu q1 tq1 h1 m1 tk1 t0 t1 qa qb F1 N1 a0 a1 a2 a3 a4 a5 a6 a7 a8 a9 a10 a11 a12
  refine loop1 F1 X N1 T hx0 hx hT hlat (by omega) (by omega) hk H.b1 H.b2 H.l1 H.l2 H.p1 H.p2 a0 a1 a2 a3 a4 a5 a6 a7 a8 a9 a10 a11 a12 ?_
  intro b tb ll ol q2 tq2 h2 m2 tk2 hb hll hol qc qd F2 N2 b0 b1 b2 b3 b4 b5 b6 b7 b8 b9 b10 b11 b12 b13 b14
  refine loop2 F2 X N2 T hx0 hx hT hlat (by omega) (by omega) t0 t1 hb b0 b1 b2 b3 b4 b5 b6 b7 b8 b9 b10 b11 b12 b13 b14 ?_
  intro se tse q3 tq3 h3 m3 tk3 s0 s1 qe qf F3 N3 c0 c1 c2 c3 c4 c5 c6 c7 c8 c9 c10 c11 c12 c13 c14 c15
  refine loop3 F3 X N3 T c0 c1 c2 c3 c4 c5 c6 c7 c8 c9 c10 c11 c12 c13 c14 c15 ?_
  intro wd h4 m4 tk4 F4 N4 d0 d1 d2 d3 d4 d5 d6 d7 d8 d9 d10 d11 d12 d13 d14 d15 d16
  refine loop4 F4 X N4 T hlat hll hol d0 d1 d2 d3 d4 d5 d6 d7 d8 d9 d10 d11 d12 d13 d14 d15 d16 ?_
  intro lo' its os' co rest5 h5 m5 tk5 hi hz hr hlo hs5 hlat5 F5 N5 e0 e1 e2 e3 e4 e5 e6 e7 e8 e9 e10 e11 e12 e13 e14 e15 e16 e17
  refine loop6 F5 X N5 T hi hz hr hlo hlat5 (lex H.l1 hs5) s0 s1 e0 e1 e2 e3 e4 e5 e6 e7 e8 e9 e10 e11 e12 e13 e14 e15 e16 e17 ?_
  intro y dy u du rest6 h6 m6 tk6 hy hdy hdu hs6 hlat6 F6 N6 g0 g1 g2 g3 g4 g5 g6 g7 g8 g9 g10 g11 g12 g13 g14 g15 g16 g17 g18 g19
  have hs : ∀ x ∈ rest, x ∈ rest6 := fun x hx => hs6 x (hs5 x hx)
  have H6 := H.more hs
  have hbz : (bOf os').size ≤ 64 := by rw [bOf_size]; omega
  refine loop8 F6 X N6 T hy hdy hbz s0 s1 hdu H6.r2 H6.ra g0 g1 g2 g3 g4 g5 g6 g7 g8 g9 g10 g11 g12 g13 g14 g15 g16 g17 g18 g19 ?_
  intro h7 tk7 F7 N7 _
  refine loop9 (bb := #[]) hi hz hr (hs6 _ hlo) F7 X N7 T hy hdy hbz s0 s1 H6.l2 H6.r1 g0 g1 g2 g3 g4 g5 g6 g7 g8 g9 g10 g11 g12 g13 g14 g15 g16 g17 g18 g19 ?_
  intro h8 tk8 F8 N8
  exact hfin q3 tq3 rest6 h8 m6 tk8 (by omega) (by omega) hs ⟨g0, g1, g2, g3, g4, g5, g6, g7, g8, g9, g10⟩ F8 N8
end

section
variable {w : World} {hp : Heap} {gs : Array GenState} {dr : Drawn} {tk₀ : Nat} {os : OsState} {h₀ : Heap} {L fa : Addr} {cd : Value} {m mg mb : Str → Option Value} {p : Program} {loose : List Str} {mean : ExcName → Option Value} {Q : Flow → Shared → Prop} {rest : Led} {n : Nat} {told lat : Addr} {ns : List Int} {q : Int} {tq : Tok} {num ans fur : Int} {wide : Bool} {o1 o2 : Option Int} {x1 x2 la lb xa : Addr} {tn ta tf : Tok}
theorem law21 (F : Fr h₀ L hp m) (X : (KF w.params).In h₀) (N : News h₀ L hp ((lat, listOf #[.int q tq] n) :: rest)) (T : Top p loose mean mg mb h₀) (hx0 : 0 < ns.length) (hx : ns.length ≤ 63) (hT : Told h₀ rest told ns) (hlat : ∀ x ∈ rest, x.1 ≠ lat) (hq : 0 ≤ q) (hq' : q ≤ 30) (H : LH w rest x1 x2 la lb xa num ans fur wide o1 o2) (f : LF m told lat x1 x2 la lb xa num ans fur wide tn ta tf)
    (h : ∀ h' m' tk', Fr h₀ L h' m' → Q (.ret (.bool true)) ⟨h', gs, dr, tk', os⟩) :
    wpAny (model PySem.Challenge.rw_ff0002_01.row.prog w) (lawA L fa cd) (execs tlL21 (envOf (Str.ofString "law") sc1192 L fa cd)) Q (fun _ _ => False) ⟨hp, gs, dr, tk₀, os⟩ := by
  rw [sgL21_eq]
  refine wpAny_execs_cons ?_
  refine For_invV h₀ rfl rfl ?_ (fun _ => rfl) PassesOwn.never
  refine range21 F X N T hx0 hx hT hlat hq (by omega) f.f0 f.f1 ?_
  intro r v a b c tq' h1 tk1 v0 v1 hr F1 N1
  refine iter_rangeJ (n := (2 + v).toNat) (m₀ := m) (news := (lat, listOf #[.int (q + 1) tq'] n) :: rest)
    (fun i m' nx => ∃ q' t', nx = (lat, listOf #[.int q' t'] n) :: rest ∧ 0 ≤ q' ∧ q' ≤ q + 1 + 3 * (i : Int) ∧ LF m' told lat x1 x2 la lb xa num ans fur wide tn ta tf)
    rfl hr (small_one (by omega) (by omega) (by omega) (by omega)) ?_ F1 N1 ⟨q + 1, tq', rfl, by omega, by omega, f⟩ ?_ ?_
  · rw [rangeSize_one]
    split <;> omega
  · rintro i t m₁ nx h2 tk own hi hoff ⟨q', t', rfl, hq0, hq1, f1⟩ F2 N2
    have hlat2 : ∀ x ∈ rest ++ own, x.1 ≠ lat := by
      intro x hx
      rcases List.mem_append.mp hx with hx | hx
      · exact hlat x hx
      · exact hoff x hx lat (by simp)
    have hsub : ∀ x ∈ rest, x ∈ rest ++ own := fun x hx => List.mem_append.mpr (.inl hx)
    refine loopBody (kk := 0 + (i : Int)) (tkk := t) (tn := tn) (ta := ta) (tf := tf) F2 X N2 T hx0 hx (hT.more hsub) hlat2 hq0 (by omega) (by omega) (H.more hsub) ?_ up_eq ?_
    · exact ⟨up_ne (by decide +kernel) f1.f0, up_ne (by decide +kernel) f1.f1, up_ne (by decide +kernel) f1.f2, up_ne (by decide +kernel) f1.f3, up_ne (by decide +kernel) f1.f4, up_ne (by decide +kernel) f1.f5, up_ne (by decide +kernel) f1.f6, up_ne (by decide +kernel) f1.f7, up_ne (by decide +kernel) f1.f8, up_ne (by decide +kernel) f1.f9, up_ne (by decide +kernel) f1.f10⟩
    · intro q2 tq2 rest2 h3 m3 tk3 ha hb hs2 f3 F3 N3
      refine InvEndN.intro (nx := (lat, listOf #[.int q2 tq2] n) :: rest) F3 N3 ⟨q2, tq2, rfl, ha, by omega, f3⟩ rfl ?_ ?_
      · intro x hx
        rcases List.mem_cons.mp hx with rfl | hx
        · exact .head _
        · exact .tail _ (hs2 x (hsub x hx))
      · exact fun x hx => .tail _ (hs2 x (List.mem_append.mpr (.inr hx)))
  · rintro m₁ nx h2 tk ⟨q', t', rfl, _, _, _⟩ F2 N2
    exact law22 F2 X N2 T h
end

section
variable {kind num ans fur : Int} {wide : Bool} {o1 o2 : Option Int}
theorem KindOk.bd (h : KindOk kind wide num ans fur o1 o2) : (0 ≤ num ∧ num < 536870912 ∧ 0 ≤ num + fur ∧ num + fur < 536870912) ∧ (0 ≤ ans ∧ ans < 536870912 ∧ 0 ≤ ans + fur ∧ ans + fur < 536870912) ∧ (∀ j, o1 = some j → 0 ≤ j ∧ j ≤ 255) ∧ (∀ j, o2 = some j → 0 ≤ j ∧ j ≤ 255) := by
  cases h <;> refine ⟨⟨by omega, by omega, by omega, by omega⟩, ⟨by omega, by omega, by omega, by omega⟩, ?_, ?_⟩ <;> (intro j e; cases e; try omega)
end
section
variable {w : World} {E : Value → Shared → Prop} {hp : Heap} {gs : Array GenState} {dr : Drawn} {tk₀ : Nat} {os : OsState} {h₀ : Heap} {L fa : Addr} {cd : Value} {m mg mb : Str → Option Value} {p : Program} {loose : List Str} {mean : ExcName → Option Value} {Q : Flow → Shared → Prop} {rest : Led} {n : Nat} {told lat : Addr} {ns : List Int} {q : Int} {tq : Tok} {kind num ans fur : Int} {wide : Bool} {o1 o2 : Option Int} {x1 x2 la lb : Addr} {tkd tn ta : Tok} {tf : Tok} {ov : Value}
theorem law11 (F : Fr h₀ L hp m) (X : (KF w.params).In h₀) (N : News h₀ L hp ((lat, listOf #[.int q tq] n) :: rest)) (T : Top p loose mean mg mb h₀) (kok : KindOk kind wide num ans fur o1 o2) (hov : IsO o1 ov) (hlat : ∀ x ∈ rest, x.1 ≠ lat) (m0 : m (Str.ofString "told") = some (.ref told)) (m1 : m (Str.ofString "at") = some (.ref lat)) (m2 : m (Str.ofString "kind") = some (.int kind tkd)) (m3 : m (Str.ofString "first") = some (.ref x1)) (m4 : m (Str.ofString "second") = some (.ref x2)) (m5 : m (Str.ofString "ahead") = some (.ref la)) (m6 : m (Str.ofString "number") = some (.int num tn)) (m7 : m (Str.ofString "back") = some (.ref lb)) (m8 : m (Str.ofString "answer") = some (.int ans ta)) (m9 : m (Str.ofString "wide") = some (.bool wide)) (m10 : m (Str.ofString "made") = some (.bool (decide (kind = 2 ∨ kind = 6)))) (m11 : m (Str.ofString "further") = some (.int fur tf)) (m12 : m (Str.ofString "octet") = some (ov))
    (h : ∀ (xh : Addr) (rest' : Led) h' m' tk', HalfRx w rest' xh wide num (num + fur) o1 → (∀ x ∈ rest, x ∈ rest') → (∀ x ∈ rest', x.1 ≠ lat) → Fr h₀ L h' m' → News h₀ L h' ((lat, listOf #[.int q tq] n) :: rest') → m' (Str.ofString "told") = some (.ref told) → m' (Str.ofString "at") = some (.ref lat) → m' (Str.ofString "first") = some (.ref x1) → m' (Str.ofString "second") = some (.ref x2) → m' (Str.ofString "ahead") = some (.ref la) → m' (Str.ofString "number") = some (.int num tn) → m' (Str.ofString "back") = some (.ref lb) → m' (Str.ofString "answer") = some (.int ans ta) → m' (Str.ofString "wide") = some (.bool wide) → m' (Str.ofString "further") = some (.int fur tf) → m' (Str.ofString "octet") = some (ov) → m' (Str.ofString "hears") = some (.ref xh) → wpAny (model PySem.Challenge.rw_ff0002_01.row.prog w) (lawA L fa cd) (execs tlL13 (envOf (Str.ofString "law") sc1192 L fa cd)) Q E ⟨h', gs, dr, tk', os⟩) :
    wpAny (model PySem.Challenge.rw_ff0002_01.row.prog w) (lawA L fa cd) (execs tlL11 (envOf (Str.ofString "law") sc1192 L fa cd)) Q E ⟨hp, gs, dr, tk₀, os⟩ := by
  cases kok with
  | k0 h1 h2 _ _ =>
    have e : ov = .none := hov; subst e
    exact law11_0 F X N T hlat h1 h2 m0 m1 m2 m3 m4 m5 m6 m7 m8 m9 m10 m11 m12 h
  | k1 h1 h2 _ _ =>
    have e : ov = .none := hov; subst e
    exact law11_1 F X N T hlat h1 h2 m0 m1 m2 m3 m4 m5 m6 m7 m8 m9 m10 m11 m12 h
  | k2 h1 h2 h3 h4 =>
    have e : ov = .none := hov; subst e
    exact law11_2 F X N T hlat h1 h2 h3 h4 m0 m1 m2 m3 m4 m5 m6 m7 m8 m9 m10 m11 m12 h
  | k3 h1 h2 _ _ h3 h4 _ _ =>
    obtain ⟨to, e⟩ := hov; subst e
    exact law11_3 F X N T hlat h1 h2 h3 h4 m0 m1 m2 m3 m4 m5 m6 m7 m8 m9 m10 m11 m12 h
  | k4 h1 h2 _ _ h3 h4 _ _ =>
    obtain ⟨to, e⟩ := hov; subst e
    exact law11_4 F X N T hlat h1 h2 h3 h4 m0 m1 m2 m3 m4 m5 m6 m7 m8 m9 m10 m11 m12 h
  | k5 h1 h2 _ _ h3 h4 =>
    obtain ⟨to, e⟩ := hov; subst e
    exact law11_5 F X N T hlat h1 h2 h3 h4 m0 m1 m2 m3 m4 m5 m6 m7 m8 m9 m10 m11 m12 h
  | k6 h1 h2 h3 h4 h5 h6 =>
    obtain ⟨to, e⟩ := hov; subst e
    exact law11_6 F X N T hlat h1 h2 h3 h4 h5 h6 m0 m1 m2 m3 m4 m5 m6 m7 m8 m9 m10 m11 m12 h
end
section
variable {w : World} {hp : Heap} {gs : Array GenState} {dr : Drawn} {tk₀ : Nat} {os : OsState} {h₀ : Heap} {L fa : Addr} {cd : Value} {m mg mb : Str → Option Value} {p : Program} {loose : List Str} {mean : ExcName → Option Value} {Q : Flow → Shared → Prop} {rest : Led} {n : Nat} {told lat : Addr} {ns : List Int} {q : Int} {tq : Tok} {sl : Addr} {its : List Value} {xs : List Int}
theorem lawBody (F : Fr h₀ L hp m) (X : (KF w.params).In h₀) (N : News h₀ L hp []) (T : Top p loose mean mg mb h₀) (hs : m (Str.ofString "script") = some (.ref sl)) (hl : h₀.IsList sl its.toArray) (hi : IntsAre its xs) (hx : xs.length ≤ 63)
    (h : ∀ h' m' tk', Fr h₀ L h' m' → Q (.ret (.bool true)) ⟨h', gs, dr, tk', os⟩) :
    wpAny (model PySem.Challenge.rw_ff0002_01.row.prog w) (lawA L fa cd) (execs bd1192 (envOf (Str.ofString "law") sc1192 L fa cd)) Q (fun _ _ => False) ⟨hp, gs, dr, tk₀, os⟩ := by
  refine law0 F X N T hs hl hi hx ?_
  intro told lat ns rest t h1 m1 tk1 n hx0 hx hT hlat F1 N1 a0 a1
  refine law1 F1 X N1 T hx0 hx hT hlat (by decide) (by decide) a0 a1 ?_
  intro kind num ans fur wide o1 o2 x1 x2 la lb tkd tn ta rest2 t2 h2 m2 tk2 kok pr hT2 hlat2 F2 N2 b0 b1 b2 b3 b4 b5 b6 b7 b8 b9
  obtain ⟨bd1, bd2, ho1, ho2⟩ := kok.bd
  refine law3 F2 X N2 T kok pr b0 b1 b2 b3 b4 b5 b6 b7 b8 b9 ?_
  intro tf h3 m3 tk3 F3 N3 c0 c1 c2 c3 c4 c5 c6 c7 c8 c9 c10 c11
  refine law5 F3 X N3 T pr ho1 c0 c1 c2 c3 c4 c5 c6 c7 c8 c9 c10 c11 ?_
  intro ov h4 m4 tk4 hov F4 N4 d0 d1 d2 d3 d4 d5 d6 d7 d8 d9 d10 d11 d12
  refine law11 F4 X N4 T kok hov hlat2 d0 d1 d2 d3 d4 d5 d6 d7 d8 d9 d10 d11 d12 ?_
  intro xh rest5 h5 m5 tk5 hrx hs5 hlat5 F5 N5 e0 e1 e2 e3 e4 e5 e6 e7 e8 e9 e10 e11
  refine law13 F5 X N5 T hx0 hx (hT2.more hs5) hlat5 (by decide) (by decide) e0 e1 e2 e3 e4 e5 e6 e7 e8 e9 e10 e11 ?_
  intro way tw t6 h6 m6 tk6 w0 w1 F6 N6 f0 f1 f2 f3 f4 f5 f6 f7 f8 f9 f10 f11 f12
  refine law14 F6 X N6 T hlat5 w0 w1 f0 f1 f2 f3 f4 f5 f6 f7 f8 f9 f10 f11 f12 ?_
  intro w29 sp sp2 lo xs' ll tsp rest7 h7 m7 tk7 wok htx hll hs7 hlat7 F7 N7 g0 g1 g2 g3 g4 g5 g6 g7 g8 g9 g10 g11 g12 g13 g14 g15
  obtain ⟨hw1, hw2, hlo⟩ := wok.facts
  have hrx7 := hrx.more hs7
  refine law16 F7 X N7 T hlat7 htx hrx7 g0 g1 g2 g3 g4 g5 g6 g7 g8 g9 g10 g11 g12 g13 g14 g15 ?_
  intro xa rest8 h8 m8 tk8 Tx Rx P1 hs8 hlat8 F8 N8 k0 k1 k2 k3 k4 k5 k6 k7 k8 k9 k10 k11 k12 k13 k14 k15 k16
  refine law17 F8 X N8 T hw2 Tx Rx k0 k1 k2 k3 k4 k5 k6 k7 k8 k9 k10 k11 k12 k13 k14 k15 k16 ?_
  intro h9 tk9 F9 N9
  have hs28 : ∀ x ∈ rest2, x ∈ rest8 := fun x hx => hs8 x (hs7 x (hs5 x hx))
  have pr8 := pr.more hs28
  refine law18 F9 X N9 T ho1 hlo hov hw1 pr8.l1 (lex hll hs8) Tx Rx P1 (hrx7.pt.more hs8 (Nat.le_refl _)) (htx.pt.more hs8 (Nat.le_refl _)) k0 k1 k2 k3 k4 k5 k6 k7 k8 k9 k10 k11 k12 k13 k14 k15 k16 ?_
  intro h10 tk10 F10 N10
  refine law21 F10 X N10 T hx0 hx (hT2.more hs28) hlat8 (by decide) (by decide) ⟨bd1, bd2, pr8.l1, pr8.l2, ho1, ho2, pr8.r1, pr8.r2, Rx⟩ ⟨k0, k1, k2, k3, k4, k5, k6, k7, k8, k9, k16⟩ h
end

end
end
theorem head.tw559607728935737979 : True := trivial
theorem head.tw14701077814489985756 : True := trivial
theorem head.tw2236779808443626771 : True := trivial
theorem head.tw18194235355205674469 : True := trivial
theorem head.tw6923139346005982118 : True := trivial
theorem head.tw14076982628551048905 : True := trivial
theorem head.tw11697980953853367341 : True := trivial
theorem head.tw14132421369061593742 : True := trivial
theorem head.tw13015295685161721227 : True := trivial
theorem head.tw15807379234759093331 : True := trivial
theorem head.tw644958302273856086 : True := trivial
theorem head.tw9049860558728565481 : True := trivial
theorem head.tw12181229475202438901 : True := trivial
theorem head.tw9308959628206055660 : True := trivial
theorem head.tw10171091536733691778 : True := trivial
theorem head.tw8238117062424999366 : True := trivial
theorem head.tw11676600905601713976 : True := trivial
theorem head.tw8257715949115100331 : True := trivial
theorem head.tw3040555883307425928 : True := trivial
theorem head.tw17009771976208154933 : True := trivial
theorem head.tw12039137657211290515 : True := trivial
theorem head.tw2123456890754943274 : True := trivial
theorem head.tw1474961415264736859 : True := trivial
theorem head.tw5212229998681999841 : True := trivial
theorem head.tw16459638116043724497 : True := trivial
theorem head.tw12207937199487035745 : True := trivial
theorem head.tw14491515334184471657 : True := trivial
theorem head.tw14470804278632953309 : True := trivial
theorem head.tw4608284121681433764 : True := trivial
theorem head.tw1918884612611574921 : True := trivial
theorem head.tw11418204185147461000 : True := trivial
theorem head.tw5591399807416858369 : True := trivial
theorem head.tw2933827773690611343 : True := trivial
theorem head.tw5865421593230943568 : True := trivial
theorem head.tw4737614525000102073 : True := trivial
theorem head.tw5234034268914192802 : True := trivial
theorem head.tw5677533580147618786 : True := trivial
theorem head.tw15143798321361455821 : True := trivial
theorem head.tw17104228869554672541 : True := trivial
theorem head.tw1068775907635541596 : True := trivial
theorem head.tw2895046715181644469 : True := trivial
theorem head.tw4823973681313038070 : True := trivial
theorem head.tw1329139514890002538 : True := trivial
theorem head.tw7415481005890845386 : True := trivial
theorem head.tw2149818191934713554 : True := trivial
theorem head.tw16492596727443477334 : True := trivial
theorem head.tw16360952187969651320 : True := trivial
theorem head.tw1379694272655097336 : True := trivial
theorem head.tw7064576912131800416 : True := trivial
theorem head.tw14311340473388993849 : True := trivial
theorem head.tw16289325131906828649 : True := trivial
theorem head.tw7773477628633938830 : True := trivial
theorem head.tw8903665043760339008 : True := trivial
theorem head.tw2056342483219161833 : True := trivial
theorem head.tw15940621676493584966 : True := trivial
theorem head.tw15307742465414924605 : True := trivial
theorem head.tw12942713027217397852 : True := trivial
theorem head.tw13703985768281871745 : True := trivial
theorem head.tw14331581963634098945 : True := trivial
theorem head.tw9864474776196604528 : True := trivial
theorem head.tw13295602550337036981 : True := trivial
theorem head.tw7556780620912305594 : True := trivial
theorem head.tw9338717260550464064 : True := trivial
theorem head.tw3483726649045044999 : True := trivial
theorem head.tw11132487480926684733 : True := trivial
theorem head.tw11902179687841165173 : True := trivial
theorem head.tw8673269760282635301 : True := trivial
theorem head.tw15755229612106482624 : True := trivial
theorem head.tw401794712129759012 : True := trivial
theorem head.tw2619429472256841599 : True := trivial
theorem head.tw17069957057542824215 : True := trivial
theorem head.tw5714567979466084952 : True := trivial
theorem head.tw13695277343892569604 : True := trivial
theorem head.tw11455086287684852342 : True := trivial
theorem head.tw16468569829591719541 : True := trivial
theorem head.tw5313380988128105116 : True := trivial
theorem head.tw10019951398262190568 : True := trivial
theorem head.tw17241566191339878714 : True := trivial
theorem head.tw9608377800256291669 : True := trivial
theorem head.tw17793759536777045643 : True := trivial
theorem head.tw6465002171639433639 : True := trivial
theorem head.tw16388487268851961065 : True := trivial
theorem head.tw3421611166145717266 : True := trivial
theorem head.tw12351309130966846124 : True := trivial
theorem head.tw2418301337894644882 : True := trivial
theorem head.tw16713760959555765350 : True := trivial
theorem head.tw12524623287455510617 : True := trivial
theorem head.tw3567702952731444329 : True := trivial
theorem head.tw14303258195080707404 : True := trivial
theorem head.tw6814046463813496832 : True := trivial
theorem head.tw16390735416758967846 : True := trivial
theorem head.tw15218788814872722840 : True := trivial
theorem head.tw5485833197653379195 : True := trivial
theorem head.tw17260861813949740922 : True := trivial
theorem head.tw5699096291855732178 : True := trivial
theorem head.tw8383026986705796735 : True := trivial
theorem head.tw9141016544171167523 : True := trivial
theorem head.tw15599174098124845149 : True := trivial
theorem head.tw11433049526266426101 : True := trivial
theorem head.tw9516415969629581596 : True := trivial
theorem head.tw9929037282122898367 : True := trivial
theorem head.tw10360355179755900071 : True := trivial
theorem head.tw10957180678049773753 : True := trivial
theorem head.tw11410769395702133129 : True := trivial
theorem head.tw17067637420212882889 : True := trivial
theorem head.tw3951901595045252469 : True := trivial
theorem head.tw7982612777975879611 : True := trivial
theorem head.tw13927356158070621380 : True := trivial
theorem head.tw2717208847683956309 : True := trivial
theorem head.tw15969215476548702787 : True := trivial
theorem head.tw11241476830008268045 : True := trivial
theorem head.tw1047250769976239364 : True := trivial
theorem head.tw11444606304192054452 : True := trivial
theorem head.tw4651799925229823638 : True := trivial
theorem head.tw3144135606727127238 : True := trivial
theorem head.tw14733557814532082709 : True := trivial
theorem head.tw10609879721330458376 : True := trivial
theorem head.tw9037646719097263615 : True := trivial
theorem head.tw12527921394978015684 : True := trivial
theorem head.tw2223791320229761884 : True := trivial
theorem head.tw6861794922711700498 : True := trivial
theorem head.tw9478285419201585186 : True := trivial
theorem head.tw10213982820455145879 : True := trivial
theorem head.tw15149817146928655991 : True := trivial
theorem head.tw5531456924482520303 : True := trivial
theorem head.tw15782546353969746812 : True := trivial
theorem head.tw15864971792659095162 : True := trivial
theorem head.tw14080897583622272714 : True := trivial
theorem head.tw7200216205937916231 : True := trivial
theorem head.tw2148295259348594950 : True := trivial
theorem head.tw8425611671269686227 : True := trivial
theorem head.tw2258499232852451295 : True := trivial
theorem head.tw13749153600029988744 : True := trivial
theorem head.tw5750035740930124156 : True := trivial
theorem head.tw7205719323374385383 : True := trivial
theorem head.tw3922729948320135483 : True := trivial
theorem head.tw1944943179201316239 : True := trivial
theorem head.tw9671237223504923836 : True := trivial
theorem head.tw9853672686765084745 : True := trivial
theorem head.tw15552074229906078358 : True := trivial
theorem head.tw8780837400768956963 : True := trivial
theorem head.tw7930151910110742097 : True := trivial
theorem head.tw5575573150383494877 : True := trivial
theorem head.tw8806993360734665878 : True := trivial
theorem head.tw2133817998471746476 : True := trivial
theorem head.tw3128354285146177051 : True := trivial
theorem head.tw9744433000704399080 : True := trivial
theorem head.tw6845107233627197766 : True := trivial
theorem head.tw3089133614196266344 : True := trivial
theorem head.tw9684033903571663316 : True := trivial
theorem head.tw10981693645786004873 : True := trivial
theorem head.tw3060440410638609846 : True := trivial
theorem head.tw17535694816019086632 : True := trivial
theorem head.tw7875534447020908724 : True := trivial
theorem head.tw7619743888987243280 : True := trivial
theorem head.tw6805466722817355697 : True := trivial
theorem head.tw3038588178232922672 : True := trivial
theorem head.tw9120632577609030895 : True := trivial
theorem head.tw9557685938497860537 : True := trivial
theorem head.tw1753051609752297213 : True := trivial
theorem head.tw10470577562921762397 : True := trivial
theorem head.tw5679135691566041004 : True := trivial
theorem head.tw7730863396018513660 : True := trivial
theorem head.tw17588615108546603040 : True := trivial
theorem head.tw7536645888790732370 : True := trivial
theorem head.tw5727186295651033306 : True := trivial
theorem head.tw4466855398633131890 : True := trivial
theorem head.tw11397213983124533512 : True := trivial
theorem head.tw11926066008654877282 : True := trivial
theorem head.tw2954551907840725959 : True := trivial
theorem head.tw18168864133395445503 : True := trivial
theorem head.tw11951355262134147619 : True := trivial
theorem head.tw4881830931486566492 : True := trivial
theorem head.tw466871060357766667 : True := trivial
theorem head.tw1457370168955750072 : True := trivial
theorem head.tw478572323907333862 : True := trivial
theorem head.tw10000582535759399553 : True := trivial
theorem head.tw7658818933961408665 : True := trivial
theorem head.tw3170135247881550292 : True := trivial
theorem head.tw14546603206687470831 : True := trivial
theorem head.tw210108236106311340 : True := trivial
theorem head.tw6812173254179626730 : True := trivial
theorem head.tw5617645434550880833 : True := trivial
theorem head.tw7022920536615419440 : True := trivial
theorem head.tw1501788042078761842 : True := trivial
theorem head.tw413453090644570912 : True := trivial
theorem head.tw12242023697086250348 : True := trivial
theorem head.tw11468787686823720059 : True := trivial
theorem head.tw3995553898924099588 : True := trivial
theorem head.tw9648993773214528412 : True := trivial
theorem head.tw10620185905779755679 : True := trivial
theorem head.tw4368809820158642122 : True := trivial
theorem head.tw2676691496142756271 : True := trivial
theorem head.tw16878899209960844262 : True := trivial
theorem head.tw445848483822676984 : True := trivial
theorem head.tw12585118612744143440 : True := trivial
theorem head.tw7365368072728555507 : True := trivial
theorem head.tw7361868050534549171 : True := trivial
theorem head.tw3211908528010551787 : True := trivial
theorem head.tw11933505167164814718 : True := trivial
theorem head.tw16644014937889439965 : True := trivial
theorem head.tw17116063337002187647 : True := trivial
theorem head.tw8938167513939094712 : True := trivial
theorem head.tw16189334836914153422 : True := trivial
theorem head.tw12030227955564427263 : True := trivial
theorem head.tw14587715282227812401 : True := trivial
theorem head.tw10498668249687972143 : True := trivial
theorem head.tw3759879630045027130 : True := trivial
theorem head.tw8569220016244557296 : True := trivial
theorem head.tw10023967199086308835 : True := trivial
theorem head.tw15035086891289998720 : True := trivial
theorem head.tw5976393196662275077 : True := trivial
theorem head.tw108589659603457161 : True := trivial
theorem head.tw16353077725383727019 : True := trivial
theorem head.tw17975283948090963572 : True := trivial
theorem head.tw9661756288008405233 : True := trivial
theorem head.tw11671057247024910230 : True := trivial
theorem head.tw15786393848795917902 : True := trivial
theorem head.tw7207604054439252787 : True := trivial
theorem head.tw14197347938474655992 : True := trivial
theorem head.tw11818222590363337751 : True := trivial
theorem head.tw14184727920493424107 : True := trivial
theorem head.tw12051115762642354565 : True := trivial
theorem head.tw8339381119122479644 : True := trivial
theorem head.tw6419026868525893482 : True := trivial
theorem head.tw12898574612701963310 : True := trivial
theorem head.tw10859240658097780906 : True := trivial
theorem head.tw15516983975922326413 : True := trivial
theorem head.tw14212007060867528063 : True := trivial
theorem head.tw3891618554008302659 : True := trivial
theorem head.tw15515612801736034068 : True := trivial
theorem head.tw17842410240638077810 : True := trivial
theorem head.tw2435806757279004623 : True := trivial
theorem head.tw7414131601657932518 : True := trivial
theorem head.tw2812406496456609469 : True := trivial
theorem head.tw8793519229099106628 : True := trivial
theorem head.tw16067587746766507561 : True := trivial
theorem head.tw13069112131604766176 : True := trivial
theorem head.tw220913385068816746 : True := trivial
theorem head.tw5318964808454272829 : True := trivial
theorem head.tw9934807595405647050 : True := trivial
theorem head.tw1385879038624111255 : True := trivial
theorem head.tw16781339843487334809 : True := trivial
theorem head.tw12537918784866212648 : True := trivial
theorem head.tw9191177245139413342 : True := trivial
theorem head.tw5873813609656397588 : True := trivial
theorem head.tw743325540307031630 : True := trivial
theorem head.tw17002682264904909001 : True := trivial
theorem head.tw5692561127517737954 : True := trivial
theorem head.tw2900581377929238833 : True := trivial
theorem head.tw9406375795189155179 : True := trivial
theorem head.tw13809766205652745989 : True := trivial
theorem head.tw10342119503749248072 : True := trivial
theorem head.tw15505008037783342529 : True := trivial
theorem head.tw12742288253622617705 : True := trivial
theorem head.tw8292263559670185809 : True := trivial
theorem head.tw2560480742024625209 : True := trivial
theorem head.tw16073266039382469704 : True := trivial
theorem head.tw2258150021429768338 : True := trivial
theorem head.tw4247799714049406904 : True := trivial
theorem head.tw6665376523877112928 : True := trivial
theorem head.tw9801417528320233466 : True := trivial
theorem head.tw6685532965440637582 : True := trivial
theorem head.tw13176443327637554581 : True := trivial
theorem head.tw987957745017458884 : True := trivial
theorem head.tw14983855224836034506 : True := trivial
theorem head.tw8310924351323953693 : True := trivial
theorem head.tw738702910422009456 : True := trivial
theorem head.tw6635253140682857568 : True := trivial
theorem head.tw2452122554961383712 : True := trivial
theorem head.tw3553329440702125957 : True := trivial
theorem head.tw16102421344192367633 : True := trivial
theorem head.tw2366660062575893672 : True := trivial
theorem head.tw1953419082754664891 : True := trivial
theorem head.tw7804983522585807867 : True := trivial
theorem head.tw7597175701872323891 : True := trivial
theorem head.tw12041218759213217779 : True := trivial
theorem head.tw841027950858223666 : True := trivial
theorem head.tw15071492336500860699 : True := trivial
theorem head.tw10207735899031884672 : True := trivial
theorem head.tw7937707665989730653 : True := trivial
theorem head.tw11246596778529197526 : True := trivial
theorem head.tw9349166240623497155 : True := trivial
theorem head.tw13116611405013585034 : True := trivial
theorem head.tw3227319366831924690 : True := trivial
theorem head.tw5189681562794841228 : True := trivial
theorem head.tw16924111574461927880 : True := trivial
theorem head.tw2809764839547220056 : True := trivial
theorem head.tw12276717158554250039 : True := trivial
theorem head.tw15033199178602747173 : True := trivial
theorem head.tw12103384555550821287 : True := trivial
theorem head.tw14557215434572289706 : True := trivial
theorem head.tw15838105471020597332 : True := trivial
theorem head.tw9784637755024139732 : True := trivial
theorem head.tw1537372618461020292 : True := trivial
theorem head.tw7538811412777172844 : True := trivial
theorem head.tw6122916188177301016 : True := trivial
theorem head.tw10646723310318500610 : True := trivial
theorem head.tw3861445983268663568 : True := trivial
theorem head.tw12581886583508346704 : True := trivial
theorem head.tw11583419431905268821 : True := trivial
theorem head.tw14325909752244124916 : True := trivial
theorem head.tw10930112869588932232 : True := trivial
theorem head.tw4134303489771756190 : True := trivial
theorem head.tw7173091080705431848 : True := trivial
theorem head.tw9061261555681708705 : True := trivial
theorem head.tw1556207436298362129 : True := trivial
theorem head.tw16191699112379770337 : True := trivial
theorem head.tw3287593724567304683 : True := trivial
theorem head.tw11759571265450438496 : True := trivial
theorem head.tw3394661950962167905 : True := trivial
theorem head.tw9729490125727616436 : True := trivial
theorem head.tw7712214154435397993 : True := trivial
theorem head.tw8462940934576707445 : True := trivial
theorem head.tw3946459784969654574 : True := trivial
theorem head.tw14982534685067436596 : True := trivial
theorem head.tw15997166711763427839 : True := trivial
theorem head.tw12954672553196466379 : True := trivial
theorem head.tw6701642064366219468 : True := trivial
theorem head.tw4342761621406613264 : True := trivial
theorem head.tw12726155908419963305 : True := trivial
theorem head.tw14033589442750128662 : True := trivial
theorem head.tw5401389373346456390 : True := trivial
theorem head.tw10986328603609788586 : True := trivial
theorem head.tw15699408971119929571 : True := trivial
theorem head.tw3027153956726894871 : True := trivial
theorem head.tw1825355233223732713 : True := trivial
theorem head.tw15852536916571038528 : True := trivial
theorem head.tw18293974710759844606 : True := trivial
theorem head.tw4274874853985863131 : True := trivial
theorem head.tw17203196910622656194 : True := trivial
theorem head.tw10486589069150811313 : True := trivial
theorem head.tw13393695500360829807 : True := trivial
theorem head.tw3287959460447456678 : True := trivial
theorem head.tw9229129079536300886 : True := trivial
theorem head.tw8137728297909184418 : True := trivial
theorem head.tw1291683868531303500 : True := trivial
theorem head.tw6177855791730102481 : True := trivial
theorem head.tw6943603660174823657 : True := trivial
theorem head.tw4546859024253814593 : True := trivial
theorem head.tw4745870285974543420 : True := trivial
theorem head.tw5871029580633503303 : True := trivial
theorem head.tw10338866439454858113 : True := trivial
theorem head.tw5544182752375046876 : True := trivial
theorem head.tw727656953609374727 : True := trivial
theorem head.tw16287227899218517679 : True := trivial
theorem head.tw5352858179565618649 : True := trivial
theorem head.tw5193304596065683722 : True := trivial
theorem head.tw14694255586407042801 : True := trivial
theorem head.tw3474809621349081903 : True := trivial
theorem head.tw10980465260247667244 : True := trivial
theorem head.tw4615429164831276926 : True := trivial
theorem head.tw9442293219753780375 : True := trivial
theorem head.tw16204148261066824880 : True := trivial
theorem head.tw15423734657764340312 : True := trivial
theorem head.tw10518275963647679395 : True := trivial
theorem head.tw11245585669485911774 : True := trivial
theorem head.tw3007235406070951053 : True := trivial
theorem head.tw8796739238326147203 : True := trivial
theorem head.tw2823074511264351142 : True := trivial
theorem head.tw1897847011134641823 : True := trivial
theorem head.tw13663261708402487338 : True := trivial
theorem head.tw9697767303881650713 : True := trivial
theorem head.tw17226933955943622262 : True := trivial
theorem head.tw8871424715050852912 : True := trivial
theorem head.tw6559063358950966422 : True := trivial
theorem head.tw6792626512988550222 : True := trivial
theorem head.tw8437109380820703761 : True := trivial
theorem head.tw18036311799392322423 : True := trivial
theorem head.tw16568828267769816548 : True := trivial
theorem head.tw1740869927071556712 : True := trivial
theorem head.tw4520846123185519987 : True := trivial
theorem head.tw7377960136762931929 : True := trivial
theorem head.tw3469709441501446700 : True := trivial
theorem head.tw16572091476093596323 : True := trivial
theorem head.tw13091558189998653147 : True := trivial
theorem head.tw9317317379501871257 : True := trivial
theorem head.tw15197331210158397056 : True := trivial
theorem head.tw3491174693155585559 : True := trivial
theorem head.tw17000148850877643978 : True := trivial
theorem head.tw7787182512623266362 : True := trivial
theorem head.tw4328648369458820726 : True := trivial
theorem head.tw14152295823629601093 : True := trivial
theorem head.tw16281717169742647950 : True := trivial
theorem head.tw8661549686575987950 : True := trivial
theorem head.tw15375212530983669536 : True := trivial
theorem head.tw8604370665395963354 : True := trivial
theorem head.tw3015406133704019645 : True := trivial
theorem head.tw15244783657315639102 : True := trivial
theorem head.tw8074900768155811123 : True := trivial
theorem head.tw4045986162168358080 : True := trivial
theorem head.tw18135979295374289574 : True := trivial
theorem head.tw15075266396000696587 : True := trivial
theorem head.tw16276263973524593756 : True := trivial
theorem head.tw3199429393778778304 : True := trivial
theorem head.tw16340637825595592016 : True := trivial
theorem head.tw15131869913596245629 : True := trivial
theorem head.tw10008375263243682365 : True := trivial
theorem head.tw522134795640188905 : True := trivial
theorem head.tw4865775424755671993 : True := trivial
theorem head.tw7510678649543852300 : True := trivial
theorem head.tw5367891212673256457 : True := trivial
theorem head.tw4734391712431892457 : True := trivial
theorem head.tw15904531078765764377 : True := trivial
theorem head.tw17730107512767540741 : True := trivial
theorem head.tw2479757277352430472 : True := trivial
theorem head.tw18072761497579186365 : True := trivial
theorem head.tw4411963260472076242 : True := trivial
theorem head.tw14388854757726765883 : True := trivial
theorem head.tw5227798952938663831 : True := trivial
theorem head.tw18179116206528330215 : True := trivial
theorem head.tw6524658605675746821 : True := trivial
theorem head.tw6050953200883512407 : True := trivial
theorem head.tw6051178981989121279 : True := trivial
theorem head.tw2427080651869081053 : True := trivial
theorem head.tw18088566648312375802 : True := trivial
theorem head.tw3372143370132593242 : True := trivial
theorem head.tw538578467965976347 : True := trivial
theorem head.tw9927020782545391889 : True := trivial
theorem head.tw2139126354782091417 : True := trivial
theorem head.tw5536227441466611919 : True := trivial
theorem head.tw10717078937662780056 : True := trivial
theorem head.tw12518368121834065131 : True := trivial
theorem head.tw3447218980399427364 : True := trivial
theorem head.tw6624363139758638422 : True := trivial
theorem head.tw5066392589951594278 : True := trivial
theorem head.tw17640434292912032128 : True := trivial
theorem head.tw12803837365382125588 : True := trivial
theorem head.tw1770434760182876204 : True := trivial
theorem head.tw9016488673740878338 : True := trivial
theorem head.tw16147676547551665822 : True := trivial
theorem head.tw10529199855426036705 : True := trivial
theorem head.tw12455285729795631510 : True := trivial
theorem head.tw17360579829599484175 : True := trivial
theorem head.tw4425420699202667076 : True := trivial
theorem head.tw5101454557176676645 : True := trivial
theorem head.tw1027155816748672980 : True := trivial
theorem head.tw14846266555948926157 : True := trivial
theorem head.tw10609774721198151826 : True := trivial
theorem head.tw6436801895799890038 : True := trivial
theorem head.tw2212046323532965136 : True := trivial
theorem head.tw11015264914786405738 : True := trivial
theorem head.tw16737082892529877799 : True := trivial
theorem head.tw947745932702202313 : True := trivial
theorem head.tw8997091138551461585 : True := trivial
theorem head.tw3314070590589090839 : True := trivial
theorem head.tw5804043669040810326 : True := trivial
theorem head.tw2241459443442702576 : True := trivial
theorem head.tw7166019181083879839 : True := trivial
theorem head.tw6788984240830986744 : True := trivial
theorem head.tw14221250704280540827 : True := trivial
theorem head.tw16073579809189847419 : True := trivial
theorem head.tw6251957887964602527 : True := trivial
theorem head.tw11563746654149260747 : True := trivial
theorem head.tw18146360472892871235 : True := trivial
theorem head.tw5343394399553516098 : True := trivial
theorem head.tw9988645040434415683 : True := trivial
theorem head.tw11268442182060677571 : True := trivial
theorem head.tw6659636374165690834 : True := trivial
theorem head.tw10383329616269401911 : True := trivial
theorem head.tw16091538572874765311 : True := trivial
theorem head.tw14428517953782759408 : True := trivial
theorem head.tw4919171819633652976 : True := trivial
theorem head.tw9099671269297186557 : True := trivial
theorem head.tw14522836420263388311 : True := trivial
theorem head.tw143178158403111465 : True := trivial
theorem head.tw15377570718067525505 : True := trivial
theorem head.tw12202215409735519798 : True := trivial
theorem head.tw17258484765687577366 : True := trivial
theorem head.tw13531092007653341595 : True := trivial
theorem head.tw8666308769586289591 : True := trivial
theorem head.tw14238297604135596398 : True := trivial
theorem head.tw4511509436203042791 : True := trivial
theorem head.tw5896500937787586183 : True := trivial
theorem head.tw9480388662165242370 : True := trivial
theorem head.tw5415674738179950372 : True := trivial
theorem head.tw8800239802327863267 : True := trivial
theorem head.tw1877974187140416473 : True := trivial
theorem head.tw2794781401779966127 : True := trivial
theorem head.tw4775943822467917526 : True := trivial
theorem head.tw18053034827456537526 : True := trivial
theorem head.tw1382524581132126965 : True := trivial
theorem head.tw10576498653326396977 : True := trivial
theorem head.tw15364714567965238800 : True := trivial
theorem head.tw4807810042250683422 : True := trivial
theorem head.tw15451110015064242843 : True := trivial
theorem head.tw2073723192138901951 : True := trivial
theorem head.tw1142770455680024998 : True := trivial
theorem head.tw7110043497744574233 : True := trivial
theorem head.tw7564972837055017273 : True := trivial
theorem head.tw16686379258748558484 : True := trivial
theorem head.tw18007431468259329925 : True := trivial
theorem head.tw372993587022809419 : True := trivial
theorem head.tw16296953883002819843 : True := trivial
theorem head.tw8573164639841990725 : True := trivial
theorem head.tw5197915949126319024 : True := trivial
theorem head.tw11628278820926652211 : True := trivial
theorem head.tw5495970126401149587 : True := trivial
theorem head.tw13612547785804734133 : True := trivial
theorem head.tw11363583520761057228 : True := trivial
theorem head.tw2123903639357528433 : True := trivial
theorem head.tw1829083718240038795 : True := trivial
theorem head.tw7549805316703184347 : True := trivial
theorem head.tw8165149901813296079 : True := trivial
theorem head.tw11890200936304606482 : True := trivial
theorem head.tw10918022546508128348 : True := trivial
theorem head.tw1509711240655648770 : True := trivial
theorem head.tw7502337546976949016 : True := trivial
theorem head.tw5406177342311749660 : True := trivial
theorem head.tw12379779264051743627 : True := trivial
theorem head.tw9837563439819870919 : True := trivial
theorem head.tw4277455933881941865 : True := trivial
theorem head.tw14454865532591175560 : True := trivial
theorem head.tw14804139572400168469 : True := trivial
theorem head.tw16895393912216585069 : True := trivial
theorem head.tw8044011889520794621 : True := trivial
theorem head.tw17083362020502806138 : True := trivial
theorem head.tw18076716480132037434 : True := trivial
theorem head.tw10501316277462697885 : True := trivial
theorem head.tw16756499053269073882 : True := trivial
theorem head.tw13819817008389738410 : True := trivial
theorem head.tw974676399055366991 : True := trivial
theorem head.tw17141428878086348981 : True := trivial
theorem head.tw8299618654523837009 : True := trivial
theorem head.tw4654715500807257006 : True := trivial
theorem head.tw14682900788890621910 : True := trivial
theorem head.tw14547669026552323017 : True := trivial
theorem head.tw547099659640943018 : True := trivial
theorem head.tw15938323815607600166 : True := trivial
theorem head.tw17765485811471636932 : True := trivial
theorem head.tw17342198202392708656 : True := trivial
theorem head.tw9903152279420558101 : True := trivial
theorem head.tw1528183756653276811 : True := trivial
theorem head.tw13262255646990332048 : True := trivial
theorem head.tw18406743620681020301 : True := trivial
theorem head.tw1596417432366975108 : True := trivial
theorem head.tw4891678202689361566 : True := trivial
theorem head.tw989815752150337972 : True := trivial
theorem head.tw4152090721310439619 : True := trivial
theorem head.tw7216541266383003146 : True := trivial
theorem head.tw3865227728683908462 : True := trivial
theorem head.tw9253552669306704676 : True := trivial
theorem head.tw3475061137762561674 : True := trivial
theorem head.tw7943439253691202163 : True := trivial
theorem head.tw14722923866276869983 : True := trivial
theorem head.tw7112494609220686190 : True := trivial
theorem head.tw16850669015542321058 : True := trivial
theorem head.tw7257647293604553761 : True := trivial
theorem head.tw16435193025634776147 : True := trivial
theorem head.tw17013790142180714870 : True := trivial
theorem head.tw11746322868699689195 : True := trivial
theorem head.tw823422531155485144 : True := trivial
theorem head.tw14564102244969864175 : True := trivial
theorem head.tw5958592374284718620 : True := trivial
theorem head.tw2654205108362489283 : True := trivial
theorem head.tw4384928434876336181 : True := trivial
theorem head.tw16655686763229125670 : True := trivial
theorem head.tw9522557741469981478 : True := trivial
theorem head.tw8005847168200596573 : True := trivial
theorem head.tw8721814817134603031 : True := trivial
theorem head.tw9389194400276267117 : True := trivial
theorem head.tw3076569937437393412 : True := trivial
theorem head.tw12697363177648460179 : True := trivial
theorem head.tw172642404867232632 : True := trivial
theorem head.tw14839364314469280175 : True := trivial
theorem head.tw13309220399010721046 : True := trivial
theorem head.tw16220789116792825300 : True := trivial
theorem head.tw13914213742198673330 : True := trivial
theorem head.tw6707741374960958295 : True := trivial
theorem head.tw2462307402634905766 : True := trivial
theorem head.tw1921273347072400710 : True := trivial
theorem head.tw7645950559838092299 : True := trivial
theorem head.tw5604177455470790471 : True := trivial
theorem head.tw16174444817418005899 : True := trivial
theorem head.tw1589604171197086961 : True := trivial
theorem head.tw1826580516290281297 : True := trivial
theorem head.tw11369950997843702303 : True := trivial
theorem head.tw4815705210541077406 : True := trivial
theorem head.tw5747429230200960747 : True := trivial
theorem head.tw6946022576425873402 : True := trivial
theorem head.tw4974585842098243178 : True := trivial
theorem head.tw1604510945564511186 : True := trivial
theorem head.tw15637290910578713393 : True := trivial
theorem head.tw12542399321983460293 : True := trivial
theorem head.tw11061049555556574827 : True := trivial
theorem head.tw8986390602272506142 : True := trivial
theorem head.tw8986584353136017204 : True := trivial
theorem head.tw5277096716453715264 : True := trivial
theorem head.tw10053744933190134061 : True := trivial
theorem head.tw12789016638322678139 : True := trivial
theorem head.tw7557240851565218677 : True := trivial
theorem head.tw3526428444662781228 : True := trivial
theorem head.tw14733433442101505840 : True := trivial
theorem head.tw13763504224498209327 : True := trivial
theorem head.tw12773286406841906308 : True := trivial
theorem head.tw4306661326434689679 : True := trivial
theorem head.tw13264656546505456877 : True := trivial
theorem head.tw15048536816504735470 : True := trivial
theorem head.tw6850726384951132292 : True := trivial
theorem head.tw6853815510604806874 : True := trivial
theorem head.tw18300256729727331129 : True := trivial
theorem head.tw5870477946936986039 : True := trivial
theorem head.tw14864264153744236104 : True := trivial
theorem head.tw15485988799421978684 : True := trivial
theorem head.tw10369268312143876174 : True := trivial
theorem head.tw15639036660354002150 : True := trivial
theorem head.tw6676251705966274636 : True := trivial
theorem head.tw8301054313491227341 : True := trivial
theorem head.tw5024745782518943215 : True := trivial
theorem head.tw13672314090142266214 : True := trivial
theorem head.tw5143272646982152982 : True := trivial
theorem head.tw8821192915124792475 : True := trivial
theorem head.tw4883009796020049963 : True := trivial
theorem head.tw16973943969805117982 : True := trivial
theorem head.tw13814620407636622361 : True := trivial
theorem head.tw9787997167449587173 : True := trivial
theorem head.tw2922208927006846234 : True := trivial
theorem head.tw9768262922862468931 : True := trivial
theorem head.tw10384833122487024591 : True := trivial
theorem head.tw2335467047875507403 : True := trivial
theorem head.tw3678958043396072304 : True := trivial
theorem head.tw18200515369430367047 : True := trivial
theorem head.tw9613331823708933692 : True := trivial
theorem head.tw14787962567781298708 : True := trivial
theorem head.tw7091752845120838955 : True := trivial
theorem head.tw4499028697401635907 : True := trivial
theorem head.tw18097231088684442934 : True := trivial
theorem head.tw13064366659116388332 : True := trivial
theorem head.tw5255674588194567745 : True := trivial
theorem head.tw1490060421169660723 : True := trivial
theorem head.tw4139568446315455646 : True := trivial
theorem head.tw3585120636761510958 : True := trivial
theorem head.tw13493040973935190459 : True := trivial
theorem head.tw3353944451090608668 : True := trivial
theorem head.tw11331964656653764252 : True := trivial
theorem head.tw878166689353736751 : True := trivial
theorem head.tw10172395084087279453 : True := trivial
theorem head.tw3688645417889401194 : True := trivial
theorem head.tw1055040454095508592 : True := trivial
theorem head.tw11493186594661337722 : True := trivial
theorem head.tw4720250329694132062 : True := trivial
theorem head.tw10741504986871198815 : True := trivial
theorem head.tw11304707079119612301 : True := trivial
theorem head.tw15117118605920547458 : True := trivial
theorem head.tw5117632248294077693 : True := trivial
theorem head.tw560132699266057863 : True := trivial
theorem head.tw11674534266676966562 : True := trivial
theorem head.tw6513236967106325694 : True := trivial
theorem head.tw7127846266313167593 : True := trivial
theorem head.tw16352192334276878752 : True := trivial
theorem head.tw7313659976569156443 : True := trivial
theorem head.tw15979606026702608557 : True := trivial
theorem head.tw4880793025039314648 : True := trivial
theorem head.tw3431072665182467669 : True := trivial
theorem head.tw5265101676520641246 : True := trivial
theorem head.tw10186890848349126892 : True := trivial
theorem head.tw9397195780411462903 : True := trivial
theorem head.tw18078735165406464660 : True := trivial
theorem head.tw3683849354774822018 : True := trivial
theorem head.tw9088746268316538161 : True := trivial
theorem head.tw3008962316874759199 : True := trivial
theorem head.tw2634584814814849162 : True := trivial
theorem head.tw4368879618377400440 : True := trivial
theorem head.tw2884068644468728272 : True := trivial
theorem head.tw1905305178384542580 : True := trivial
theorem head.tw9103871410110422608 : True := trivial
theorem head.tw5353005391138447747 : True := trivial
theorem head.tw10335718833897831264 : True := trivial
theorem head.tw1304828102719958465 : True := trivial
theorem head.tw7244472052355486782 : True := trivial
theorem head.tw12661358757517697605 : True := trivial
theorem head.tw12823058222974813596 : True := trivial
theorem head.tw14898891490786099863 : True := trivial
theorem head.tw914786491266015508 : True := trivial
theorem head.tw18101867535269232477 : True := trivial
theorem head.tw5136879029762932818 : True := trivial
theorem head.tw4474833563166579240 : True := trivial
theorem head.tw11367507531265630425 : True := trivial
theorem head.tw625106347468240379 : True := trivial
theorem head.tw3651654350254479493 : True := trivial
theorem head.tw7104449871777212838 : True := trivial
theorem head.tw13055126406692543742 : True := trivial
theorem head.tw7095316263562055636 : True := trivial
theorem head.tw5474353547561653804 : True := trivial
theorem head.tw17670239084086906404 : True := trivial
theorem head.tw2746396783525593521 : True := trivial
theorem head.tw22776406022316405 : True := trivial
theorem head.tw6233045498374523973 : True := trivial
theorem head.tw1261238211459846952 : True := trivial
theorem head.tw4625866977104142149 : True := trivial
theorem head.tw15630180964376283690 : True := trivial
theorem head.tw2917510536281282271 : True := trivial
theorem head.tw1286616382501054412 : True := trivial
theorem head.tw1583307737217589479 : True := trivial
theorem head.tw17439644330263984568 : True := trivial
theorem head.tw11767512926160339022 : True := trivial
theorem head.tw6208856074453067705 : True := trivial
theorem head.tw7742066235142214882 : True := trivial
theorem head.tw11678341717493444460 : True := trivial
theorem head.tw12513812680601533487 : True := trivial
theorem head.tw10968322004062869288 : True := trivial
theorem head.tw16125843018549061780 : True := trivial
theorem head.tw10754068517157935908 : True := trivial
theorem head.tw16156977183541351452 : True := trivial
theorem head.tw16446724201304046412 : True := trivial
theorem head.tw4486915217696483770 : True := trivial
theorem head.tw8531953088795534088 : True := trivial
theorem head.tw17373318490105800705 : True := trivial
theorem head.tw11464392938939889054 : True := trivial
theorem head.tw3732943031288771876 : True := trivial
theorem head.tw14371457221981675920 : True := trivial
theorem head.tw5916672916821340374 : True := trivial
theorem head.tw17844090823577777815 : True := trivial
theorem head.tw17857515682139756333 : True := trivial
theorem head.tw218287628920722721 : True := trivial
theorem head.tw2114960829770828003 : True := trivial
theorem head.tw9171709839073505758 : True := trivial
theorem head.tw1669900538163026264 : True := trivial
theorem head.tw16928508243432280474 : True := trivial
theorem head.tw16813760161696484224 : True := trivial
theorem head.tw3449343349806287714 : True := trivial
theorem head.tw14126208069449708474 : True := trivial
theorem head.tw6889589163488772680 : True := trivial
theorem head.tw10080443311690303370 : True := trivial
theorem head.tw11321037010545338340 : True := trivial
theorem head.tw93379014935523236 : True := trivial
theorem head.tw181691193880420101 : True := trivial
theorem head.tw1684621536136318048 : True := trivial
theorem head.tw3001817876070076613 : True := trivial
theorem head.tw9567512631861341530 : True := trivial
theorem head.tw10892757635862735581 : True := trivial
theorem head.tw5426402898182305817 : True := trivial
theorem head.tw8296235099328665064 : True := trivial
theorem head.tw17696388958264904798 : True := trivial
theorem head.tw15594418439758756822 : True := trivial
theorem head.tw17838741219827568845 : True := trivial
theorem head.tw18329043776066443939 : True := trivial
theorem head.tw10927511121025333992 : True := trivial
theorem head.tw13372021265613686896 : True := trivial
theorem head.tw14696057631351235361 : True := trivial
theorem head.tw17937937376051565318 : True := trivial
theorem head.tw1829194831562888662 : True := trivial
theorem head.tw16683213065510682034 : True := trivial
theorem head.tw2574795135264293544 : True := trivial
theorem head.tw10206907541306174567 : True := trivial
theorem head.tw1028571320022290598 : True := trivial
theorem head.tw5982861736597742922 : True := trivial
theorem head.tw12470815482009661906 : True := trivial
theorem head.tw1433192907727398267 : True := trivial
theorem head.tw3991601051144238947 : True := trivial
theorem head.tw1205447514829820085 : True := trivial
theorem head.tw5852673340222782396 : True := trivial
theorem head.tw8987332028469852748 : True := trivial
theorem head.tw13882875292444417811 : True := trivial
theorem head.tw12506332337894699527 : True := trivial
theorem head.tw16976961452185154444 : True := trivial
theorem head.tw13408182047093342436 : True := trivial
theorem head.tw5705934603002781176 : True := trivial
theorem head.tw12401047278709271353 : True := trivial
theorem head.tw17717987754799218060 : True := trivial
theorem head.tw8729401714589036288 : True := trivial
theorem head.tw10553582714781878697 : True := trivial
theorem head.tw5100507076145799164 : True := trivial
theorem head.tw9515465305320918572 : True := trivial
theorem head.tw2481199007064967538 : True := trivial
theorem head.tw13301181309955997984 : True := trivial
theorem head.tw6587616324524380569 : True := trivial
theorem head.tw3663069972070534529 : True := trivial
theorem head.tw5929651290377595760 : True := trivial
theorem head.tw3052857565240389582 : True := trivial
theorem head.tw776511062914189232 : True := trivial
theorem head.tw11419573830406869670 : True := trivial
theorem head.tw13941439674966296378 : True := trivial
theorem head.tw11434494907316352767 : True := trivial
theorem head.tw2678655590945631503 : True := trivial
theorem head.tw12468679559205811627 : True := trivial
theorem head.tw1362168966824382610 : True := trivial
theorem head.tw7640717566671221533 : True := trivial
theorem head.tw2208706086937651047 : True := trivial
theorem head.tw10619506615413390925 : True := trivial
theorem head.tw5258561314610399241 : True := trivial
theorem head.tw15363054131536068842 : True := trivial
theorem head.tw18217226103855325017 : True := trivial
theorem head.tw2768385137368438781 : True := trivial
theorem head.tw632249054067181589 : True := trivial
theorem head.tw17041300253156646051 : True := trivial
theorem head.tw3712877251842151333 : True := trivial
theorem head.tw4513763525578699240 : True := trivial
theorem head.tw19930307316622871 : True := trivial
theorem head.tw3332846813769357965 : True := trivial
theorem head.tw13820128290710079040 : True := trivial
theorem head.tw16982970810722292050 : True := trivial
theorem head.tw2439438096152674815 : True := trivial
theorem head.tw12996296642129433384 : True := trivial
theorem head.tw78216267820920402 : True := trivial
theorem head.tw4595255640875253640 : True := trivial
theorem head.tw7821361960523482326 : True := trivial
theorem head.tw18397530887139883770 : True := trivial

set_option Elab.async true in
theorem head : PySem.Challenge.rw_ff0002_01.Holds := by
  w_on
  refine lawSaid fun said => ?_
  o_head (kHook KF [nat_lit 3, nat_lit 2, nat_lit 1036, nat_lit 1035, nat_lit 1141, nat_lit 1140, nat_lit 1163, nat_lit 1162, nat_lit 1164, nat_lit 1165, nat_lit 1166, nat_lit 1167, nat_lit 1168, nat_lit 1169, nat_lit 618, nat_lit 617, nat_lit 643, nat_lit 642, nat_lit 645, nat_lit 644, nat_lit 647, nat_lit 646, nat_lit 649, nat_lit 648, nat_lit 651, nat_lit 650, nat_lit 653, nat_lit 652, nat_lit 655, nat_lit 654, nat_lit 702, nat_lit 701, nat_lit 727, nat_lit 726, nat_lit 729, nat_lit 728, nat_lit 850, nat_lit 849, nat_lit 585, nat_lit 584, nat_lit 419, nat_lit 418, nat_lit 371, nat_lit 1178, nat_lit 1177, nat_lit 1185, nat_lit 1184, nat_lit 1192, nat_lit 1191, nat_lit 869, nat_lit 868, nat_lit 862, nat_lit 876, nat_lit 875, nat_lit 883, nat_lit 882, nat_lit 890, nat_lit 889, nat_lit 897, nat_lit 896, nat_lit 904, nat_lit 903, nat_lit 911, nat_lit 910, nat_lit 918, nat_lit 917, nat_lit 926, nat_lit 925, nat_lit 919, nat_lit 934, nat_lit 933, nat_lit 927, nat_lit 941, nat_lit 940, nat_lit 949, nat_lit 948, nat_lit 942, nat_lit 956, nat_lit 955, nat_lit 963, nat_lit 962, nat_lit 970, nat_lit 969, nat_lit 977, nat_lit 976, nat_lit 984, nat_lit 983, nat_lit 991, nat_lit 990, nat_lit 998, nat_lit 997, nat_lit 1005, nat_lit 1004, nat_lit 1012, nat_lit 1011, nat_lit 1019, nat_lit 1018, nat_lit 1026, nat_lit 1025, nat_lit 1033, nat_lit 1032, nat_lit 1052, nat_lit 1051, nat_lit 1059, nat_lit 1058, nat_lit 1066, nat_lit 1065, nat_lit 1073, nat_lit 1072, nat_lit 1081, nat_lit 1080, nat_lit 1074, nat_lit 1089, nat_lit 1088, nat_lit 1082, nat_lit 1096, nat_lit 1095, nat_lit 1103, nat_lit 1102, nat_lit 1110, nat_lit 1109, nat_lit 1117, nat_lit 1116, nat_lit 1124, nat_lit 1123, nat_lit 1131, nat_lit 1130, nat_lit 1138, nat_lit 1137, nat_lit 1159, nat_lit 1158, nat_lit 1152, nat_lit 762, nat_lit 761, nat_lit 755, nat_lit 770, nat_lit 769, nat_lit 763, nat_lit 777, nat_lit 776, nat_lit 784, nat_lit 783, nat_lit 791, nat_lit 790, nat_lit 798, nat_lit 797, nat_lit 805, nat_lit 804, nat_lit 812, nat_lit 811, nat_lit 819, nat_lit 818, nat_lit 826, nat_lit 825, nat_lit 833, nat_lit 832, nat_lit 840, nat_lit 839, nat_lit 847, nat_lit 846] (fun _ => by kernel_rfl))
  (case hw => w_witness2)
  k_go0
  refine wpAny_mono (lawBody (by assumption) (by assumption) (by assumption) (by assumption) (by rfl) (by assumption) (by assumption) (by omega) ?_) (fun _ _ h => h) (fun _ _ h => h.elim)
  intro h' m' tk' F'
  k_steps
  all_goals (try k_data)
end Mine
theorem PySem.Challenge.cw_ff0002_01_holds : PySem.Challenge.rw_ff0002_01.Holds :=
  Mine.head
