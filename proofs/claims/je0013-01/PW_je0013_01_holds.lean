import PyProof.Rows.All
import Wide.All
import OpenK.AllK
import Wide.FinOn
import PySem.Challenge.RW_je0013_01
open PySem PySem.W PyProof.Rows PySem.Calls
set_option Elab.async false
set_option linter.unusedVariables false
set_option maxRecDepth 100000
set_option compiler.extract_closed false
namespace Mine
section
noncomputable def nthS : List Stmt → Nat → Stmt
  | [], _ => .Pass ⟨0, 0, 0, 0⟩
  | s :: _, 0 => s
  | _ :: r, n + 1 => nthS r n
noncomputable def st (i : Nat) : Stmt := nthS PySem.Challenge.pw_je0013_01.main.body i
noncomputable def clsB : Stmt → List Stmt
  | .ClassDef _ _ _ b _ _ _ _ _ _ _ => b
  | _ => []
noncomputable def ct (i j : Nat) : Stmt := nthS (clsB (st i)) j
noncomputable def fnP : Stmt → Arguments
  | .FunctionDef _ a _ _ _ _ _ _ _ _ => a
  | _ => ⟨[], [], none, [], [], none, []⟩
noncomputable def fnB : Stmt → List Stmt
  | .FunctionDef _ _ b _ _ _ _ _ _ _ => b
  | _ => []
noncomputable def fnS : Stmt → Scope
  | .FunctionDef _ _ _ _ _ _ s _ _ _ => s
  | _ => ⟨.function, [], false, false, []⟩
noncomputable def ct_2_0P : Arguments := by
  refine' (?f : (k : Arguments) → k = fnP (ct 2 0) → Arguments) _ ?h
  case h =>
    conv => rhs; whnf
  case f => exact fun k _ => k
noncomputable def ct_2_0B : List Stmt := by
  refine' (?f : (k : List Stmt) → k = fnB (ct 2 0) → List Stmt) _ ?h
  case h =>
    conv => rhs; whnf
  case f => exact fun k _ => k
noncomputable def ct_2_0S : Scope := by
  refine' (?f : (k : Scope) → k = fnS (ct 2 0) → Scope) _ ?h
  case h =>
    conv => rhs; whnf
  case f => exact fun k _ => k
noncomputable def ct_3_0P : Arguments := by
  refine' (?f : (k : Arguments) → k = fnP (ct 3 0) → Arguments) _ ?h
  case h =>
    conv => rhs; whnf
  case f => exact fun k _ => k
noncomputable def ct_3_0B : List Stmt := by
  refine' (?f : (k : List Stmt) → k = fnB (ct 3 0) → List Stmt) _ ?h
  case h =>
    conv => rhs; whnf
  case f => exact fun k _ => k
noncomputable def ct_3_0S : Scope := by
  refine' (?f : (k : Scope) → k = fnS (ct 3 0) → Scope) _ ?h
  case h =>
    conv => rhs; whnf
  case f => exact fun k _ => k
noncomputable def ct_3_1P : Arguments := by
  refine' (?f : (k : Arguments) → k = fnP (ct 3 1) → Arguments) _ ?h
  case h =>
    conv => rhs; whnf
  case f => exact fun k _ => k
noncomputable def ct_3_1B : List Stmt := by
  refine' (?f : (k : List Stmt) → k = fnB (ct 3 1) → List Stmt) _ ?h
  case h =>
    conv => rhs; whnf
  case f => exact fun k _ => k
noncomputable def ct_3_1S : Scope := by
  refine' (?f : (k : Scope) → k = fnS (ct 3 1) → Scope) _ ?h
  case h =>
    conv => rhs; whnf
  case f => exact fun k _ => k
noncomputable def ct_4_0P : Arguments := by
  refine' (?f : (k : Arguments) → k = fnP (ct 4 0) → Arguments) _ ?h
  case h =>
    conv => rhs; whnf
  case f => exact fun k _ => k
noncomputable def ct_4_0B : List Stmt := by
  refine' (?f : (k : List Stmt) → k = fnB (ct 4 0) → List Stmt) _ ?h
  case h =>
    conv => rhs; whnf
  case f => exact fun k _ => k
noncomputable def ct_4_0S : Scope := by
  refine' (?f : (k : Scope) → k = fnS (ct 4 0) → Scope) _ ?h
  case h =>
    conv => rhs; whnf
  case f => exact fun k _ => k
noncomputable def ct_5_0P : Arguments := by
  refine' (?f : (k : Arguments) → k = fnP (ct 5 0) → Arguments) _ ?h
  case h =>
    conv => rhs; whnf
  case f => exact fun k _ => k
noncomputable def ct_5_0B : List Stmt := by
  refine' (?f : (k : List Stmt) → k = fnB (ct 5 0) → List Stmt) _ ?h
  case h =>
    conv => rhs; whnf
  case f => exact fun k _ => k
noncomputable def ct_5_0S : Scope := by
  refine' (?f : (k : Scope) → k = fnS (ct 5 0) → Scope) _ ?h
  case h =>
    conv => rhs; whnf
  case f => exact fun k _ => k
noncomputable def ct_5_1P : Arguments := by
  refine' (?f : (k : Arguments) → k = fnP (ct 5 1) → Arguments) _ ?h
  case h =>
    conv => rhs; whnf
  case f => exact fun k _ => k
noncomputable def ct_5_1B : List Stmt := by
  refine' (?f : (k : List Stmt) → k = fnB (ct 5 1) → List Stmt) _ ?h
  case h =>
    conv => rhs; whnf
  case f => exact fun k _ => k
noncomputable def ct_5_1S : Scope := by
  refine' (?f : (k : Scope) → k = fnS (ct 5 1) → Scope) _ ?h
  case h =>
    conv => rhs; whnf
  case f => exact fun k _ => k
noncomputable def ct_5_2P : Arguments := by
  refine' (?f : (k : Arguments) → k = fnP (ct 5 2) → Arguments) _ ?h
  case h =>
    conv => rhs; whnf
  case f => exact fun k _ => k
noncomputable def ct_5_2B : List Stmt := by
  refine' (?f : (k : List Stmt) → k = fnB (ct 5 2) → List Stmt) _ ?h
  case h =>
    conv => rhs; whnf
  case f => exact fun k _ => k
noncomputable def ct_5_2S : Scope := by
  refine' (?f : (k : Scope) → k = fnS (ct 5 2) → Scope) _ ?h
  case h =>
    conv => rhs; whnf
  case f => exact fun k _ => k
noncomputable def ct_9_2P : Arguments := by
  refine' (?f : (k : Arguments) → k = fnP (ct 9 2) → Arguments) _ ?h
  case h =>
    conv => rhs; whnf
  case f => exact fun k _ => k
noncomputable def ct_9_2B : List Stmt := by
  refine' (?f : (k : List Stmt) → k = fnB (ct 9 2) → List Stmt) _ ?h
  case h =>
    conv => rhs; whnf
  case f => exact fun k _ => k
noncomputable def ct_9_2S : Scope := by
  refine' (?f : (k : Scope) → k = fnS (ct 9 2) → Scope) _ ?h
  case h =>
    conv => rhs; whnf
  case f => exact fun k _ => k
noncomputable def ct_9_3P : Arguments := by
  refine' (?f : (k : Arguments) → k = fnP (ct 9 3) → Arguments) _ ?h
  case h =>
    conv => rhs; whnf
  case f => exact fun k _ => k
noncomputable def ct_9_3B : List Stmt := by
  refine' (?f : (k : List Stmt) → k = fnB (ct 9 3) → List Stmt) _ ?h
  case h =>
    conv => rhs; whnf
  case f => exact fun k _ => k
noncomputable def ct_9_3S : Scope := by
  refine' (?f : (k : Scope) → k = fnS (ct 9 3) → Scope) _ ?h
  case h =>
    conv => rhs; whnf
  case f => exact fun k _ => k
noncomputable def ct_9_4P : Arguments := by
  refine' (?f : (k : Arguments) → k = fnP (ct 9 4) → Arguments) _ ?h
  case h =>
    conv => rhs; whnf
  case f => exact fun k _ => k
noncomputable def ct_9_4B : List Stmt := by
  refine' (?f : (k : List Stmt) → k = fnB (ct 9 4) → List Stmt) _ ?h
  case h =>
    conv => rhs; whnf
  case f => exact fun k _ => k
noncomputable def ct_9_4S : Scope := by
  refine' (?f : (k : Scope) → k = fnS (ct 9 4) → Scope) _ ?h
  case h =>
    conv => rhs; whnf
  case f => exact fun k _ => k
noncomputable def st_11P : Arguments := by
  refine' (?f : (k : Arguments) → k = fnP (st 11) → Arguments) _ ?h
  case h =>
    conv => rhs; whnf
  case f => exact fun k _ => k
noncomputable def st_11B : List Stmt := by
  refine' (?f : (k : List Stmt) → k = fnB (st 11) → List Stmt) _ ?h
  case h =>
    conv => rhs; whnf
  case f => exact fun k _ => k
noncomputable def st_11S : Scope := by
  refine' (?f : (k : Scope) → k = fnS (st 11) → Scope) _ ?h
  case h =>
    conv => rhs; whnf
  case f => exact fun k _ => k
noncomputable def st_12P : Arguments := by
  refine' (?f : (k : Arguments) → k = fnP (st 12) → Arguments) _ ?h
  case h =>
    conv => rhs; whnf
  case f => exact fun k _ => k
noncomputable def st_12B : List Stmt := by
  refine' (?f : (k : List Stmt) → k = fnB (st 12) → List Stmt) _ ?h
  case h =>
    conv => rhs; whnf
  case f => exact fun k _ => k
noncomputable def st_12S : Scope := by
  refine' (?f : (k : Scope) → k = fnS (st 12) → Scope) _ ?h
  case h =>
    conv => rhs; whnf
  case f => exact fun k _ => k
noncomputable def st_13P : Arguments := by
  refine' (?f : (k : Arguments) → k = fnP (st 13) → Arguments) _ ?h
  case h =>
    conv => rhs; whnf
  case f => exact fun k _ => k
noncomputable def st_13B : List Stmt := by
  refine' (?f : (k : List Stmt) → k = fnB (st 13) → List Stmt) _ ?h
  case h =>
    conv => rhs; whnf
  case f => exact fun k _ => k
noncomputable def st_13S : Scope := by
  refine' (?f : (k : Scope) → k = fnS (st 13) → Scope) _ ?h
  case h =>
    conv => rhs; whnf
  case f => exact fun k _ => k
noncomputable def st_6P : Arguments := by
  refine' (?f : (k : Arguments) → k = fnP (st 6) → Arguments) _ ?h
  case h =>
    conv => rhs; whnf
  case f => exact fun k _ => k
noncomputable def st_6B : List Stmt := by
  refine' (?f : (k : List Stmt) → k = fnB (st 6) → List Stmt) _ ?h
  case h =>
    conv => rhs; whnf
  case f => exact fun k _ => k
noncomputable def st_6S : Scope := by
  refine' (?f : (k : Scope) → k = fnS (st 6) → Scope) _ ?h
  case h =>
    conv => rhs; whnf
  case f => exact fun k _ => k
noncomputable def st_7P : Arguments := by
  refine' (?f : (k : Arguments) → k = fnP (st 7) → Arguments) _ ?h
  case h =>
    conv => rhs; whnf
  case f => exact fun k _ => k
noncomputable def st_7B : List Stmt := by
  refine' (?f : (k : List Stmt) → k = fnB (st 7) → List Stmt) _ ?h
  case h =>
    conv => rhs; whnf
  case f => exact fun k _ => k
noncomputable def st_7S : Scope := by
  refine' (?f : (k : Scope) → k = fnS (st 7) → Scope) _ ?h
  case h =>
    conv => rhs; whnf
  case f => exact fun k _ => k
noncomputable def cell0 : Stmt := by
  refine' (?f : (k : Stmt) → k = st 0 → Stmt) _ ?h
  case h =>
    conv => rhs; whnf
  case f => exact fun k _ => k
noncomputable def cell2 : Stmt := by
  refine' (?f : (k : Stmt) → k = st 2 → Stmt) _ ?h
  case h =>
    conv => rhs; whnf
  case f => exact fun k _ => k
noncomputable def cell3 : Stmt := by
  refine' (?f : (k : Stmt) → k = st 3 → Stmt) _ ?h
  case h =>
    conv => rhs; whnf
  case f => exact fun k _ => k
noncomputable def cell4 : Stmt := by
  refine' (?f : (k : Stmt) → k = st 4 → Stmt) _ ?h
  case h =>
    conv => rhs; whnf
  case f => exact fun k _ => k
noncomputable def cell5 : Stmt := by
  refine' (?f : (k : Stmt) → k = st 5 → Stmt) _ ?h
  case h =>
    conv => rhs; whnf
  case f => exact fun k _ => k
noncomputable def cell6 : Stmt := by
  refine' (?f : (k : Stmt) → k = st 6 → Stmt) _ ?h
  case h =>
    conv => rhs; whnf
  case f => exact fun k _ => k
noncomputable def cell7 : Stmt := by
  refine' (?f : (k : Stmt) → k = st 7 → Stmt) _ ?h
  case h =>
    conv => rhs; whnf
  case f => exact fun k _ => k
noncomputable def cell9 : Stmt := by
  refine' (?f : (k : Stmt) → k = st 9 → Stmt) _ ?h
  case h =>
    conv => rhs; whnf
  case f => exact fun k _ => k
noncomputable def cell11 : Stmt := by
  refine' (?f : (k : Stmt) → k = st 11 → Stmt) _ ?h
  case h =>
    conv => rhs; whnf
  case f => exact fun k _ => k
noncomputable def cell12 : Stmt := by
  refine' (?f : (k : Stmt) → k = st 12 → Stmt) _ ?h
  case h =>
    conv => rhs; whnf
  case f => exact fun k _ => k
noncomputable def cell13 : Stmt := by
  refine' (?f : (k : Stmt) → k = st 13 → Stmt) _ ?h
  case h =>
    conv => rhs; whnf
  case f => exact fun k _ => k
noncomputable def rawK (P : Params) : Frag :=
  (nat_lit 2, ⟨.none, none, (.dict [].toArray 0), [].toArray⟩) ::
  (nat_lit 3, ⟨(.type "dict"), none, (.dict [⟨PyData.keyHash P (Str.ofString "__name__"), (.str (Str.ofString "__name__") 165), (.str (Str.ofString "law_je0013_01") 454)⟩, ⟨PyData.keyHash P (Str.ofString "__doc__"), (.str (Str.ofString "__doc__") 166), .none⟩, ⟨PyData.keyHash P (Str.ofString "__package__"), (.str (Str.ofString "__package__") 167), .none⟩, ⟨PyData.keyHash P (Str.ofString "__loader__"), (.str (Str.ofString "__loader__") 168), (.builtin "__main__.__loader__#\x6fpaque")⟩, ⟨PyData.keyHash P (Str.ofString "__spec__"), (.str (Str.ofString "__spec__") 169), .none⟩, ⟨PyData.keyHash P (Str.ofString "__annotations__"), (.str (Str.ofString "__annotations__") 170), (.ref 6)⟩, ⟨PyData.keyHash P (Str.ofString "__builtins__"), (.str (Str.ofString "__builtins__") 171), (.ref 4)⟩, ⟨PyData.keyHash P (Str.ofString "__file__"), (.str (Str.ofString "__file__") 173), (.str (Str.ofString "/claim/cut.py") 172)⟩, ⟨PyData.keyHash P (Str.ofString "__cached__"), (.str (Str.ofString "__cached__") 174), .none⟩, ⟨PyData.keyHash P (Str.ofString "_wall"), (.str (Str.ofString "_wall") 193), (.ref 21)⟩, ⟨PyData.keyHash P (Str.ofString "ConsumerProtocolSubscription"), (.str (Str.ofString "ConsumerProtocolSubscription") 234), (.ref 40)⟩, ⟨PyData.keyHash P (Str.ofString "ConsumerProtocolAssignment"), (.str (Str.ofString "ConsumerProtocolAssignment") 273), (.ref 66)⟩, ⟨PyData.keyHash P (Str.ofString "Member"), (.str (Str.ofString "Member") 306), (.ref 87)⟩, ⟨PyData.keyHash P (Str.ofString "Cluster"), (.str (Str.ofString "Cluster") 350), (.ref 122)⟩, ⟨PyData.keyHash P (Str.ofString "grouped_by_kind"), (.str (Str.ofString "grouped_by_kind") 361), (.ref 133)⟩, ⟨PyData.keyHash P (Str.ofString "member_of"), (.str (Str.ofString "member_of") 368), (.ref 140)⟩, ⟨PyData.keyHash P (Str.ofString "RangePartitionAssignor"), (.str (Str.ofString "RangePartitionAssignor") 453), (.ref 178)⟩, ⟨PyData.keyHash P (Str.ofString "_law_next"), (.str (Str.ofString "_law_next") 466), (.ref 189)⟩, ⟨PyData.keyHash P (Str.ofString "_law_mixed"), (.str (Str.ofString "_law_mixed") 476), (.ref 196)⟩, ⟨PyData.keyHash P (Str.ofString "law"), (.str (Str.ofString "law") 482), (.ref 201)⟩].toArray 20), [].toArray⟩) ::
  (nat_lit 29, ⟨(.type "tuple"), none, (.seq [].toArray 0), [].toArray⟩) ::
  (nat_lit 30, ⟨(.type "tuple"), none, (.seq [(.ref 29), (.int (-1) 209)].toArray 0), [].toArray⟩) ::
  (nat_lit 36, ⟨(.type "code"), none, (.fields [(.str (Str.ofString "__init__") 210), (.str (Str.ofString "ConsumerProtocolSubscription.__init__") 211), (.str (Str.ofString "/claim/cut.py") 212), (.int 7 0), (.int 6 0), (.int 0 0), (.int 0 0), (.int 3 0), (.ref 31), (.bool true), (.int 181 0), (.ref 32), .none, (.ref 33), (.ref 34), (.ref 35), (.int 219 0), (.int 7 0), (.str (Str.ofString "/claim/cut.py") 220)].toArray), [].toArray⟩) ::
  (nat_lit 37, ⟨(.type "function"), none, (.func { name := (Str.ofString "__init__"), qualname := (Str.ofString "ConsumerProtocolSubscription.__init__"), params := ct_2_0P, body := .stmts ct_2_0B, scope := ct_2_0S, globals := 3, closure := [], defaults := (.ref 30), kwdefaults := .none, doc := .none, pyModule := (.str (Str.ofString "kafka.coordinator.assignors.abstract") 194), annotations := none, code := (.ref 36), closureTuple := .none, builtins := 0 }), [].toArray⟩) ::
  (nat_lit 39, ⟨(.type "dict"), none, (.dict [⟨PyData.keyHash P (Str.ofString "__module__"), (.str (Str.ofString "__module__") 203), (.str (Str.ofString "kafka.coordinator.assignors.abstract") 194)⟩, ⟨PyData.keyHash P (Str.ofString "__firstlineno__"), (.str (Str.ofString "__firstlineno__") 207), (.int 5 206)⟩, ⟨PyData.keyHash P (Str.ofString "__init__"), (.str (Str.ofString "__init__") 221), (.ref 37)⟩, ⟨PyData.keyHash P (Str.ofString "__static_attributes__"), (.str (Str.ofString "__static_attributes__") 227), (.ref 38)⟩, ⟨PyData.keyHash P (Str.ofString "__dict__"), (.str (Str.ofString "__dict__") 229), (.ref 41)⟩, ⟨PyData.keyHash P (Str.ofString "__weakref__"), (.str (Str.ofString "__weakref__") 231), (.ref 42)⟩, ⟨PyData.keyHash P (Str.ofString "__doc__"), (.str (Str.ofString "__doc__") 232), .none⟩].toArray 4), [].toArray⟩) ::
  (nat_lit 40, ⟨(.type "type"), none, (.cls { name := (Str.ofString "ConsumerProtocolSubscription"), bases := [(.type "object")], mro := [(.ref 40), (.type "object")], ns := 39, qualname := (Str.ofString "ConsumerProtocolSubscription"), hasDict := true, slotNames := [], subclasses := [], abstract := false, collection := none, hasDel := false }), [none, none, (some (.str (Str.ofString "ConsumerProtocolSubscription") 196)), (some (.str (Str.ofString "ConsumerProtocolSubscription") 204)), (some (.builtin "object.__new__")), (some (.bool true))].toArray⟩) ::
  (nat_lit 57, ⟨(.type "code"), none, (.fields [(.str (Str.ofString "__init__") 247), (.str (Str.ofString "ConsumerProtocolAssignment.__init__") 248), (.str (Str.ofString "/claim/cut.py") 249), (.int 15 0), (.int 4 0), (.int 0 0), (.int 0 0), (.int 3 0), (.ref 52), (.bool true), (.int 181 0), (.ref 53), .none, (.ref 54), (.ref 55), (.ref 56), (.int 254 0), (.int 15 0), (.str (Str.ofString "/claim/cut.py") 255)].toArray), [].toArray⟩) ::
  (nat_lit 58, ⟨(.type "function"), none, (.func { name := (Str.ofString "__init__"), qualname := (Str.ofString "ConsumerProtocolAssignment.__init__"), params := ct_3_0P, body := .stmts ct_3_0B, scope := ct_3_0S, globals := 3, closure := [], defaults := .none, kwdefaults := .none, doc := .none, pyModule := (.str (Str.ofString "kafka.coordinator.assignors.abstract") 194), annotations := none, code := (.ref 57), closureTuple := .none, builtins := 0 }), [].toArray⟩) ::
  (nat_lit 62, ⟨(.type "code"), none, (.fields [(.str (Str.ofString "partitions") 257), (.str (Str.ofString "ConsumerProtocolAssignment.partitions") 258), (.str (Str.ofString "/claim/cut.py") 259), (.int 20 0), (.int 1 0), (.int 0 0), (.int 0 0), (.int 3 0), (.ref 59), (.bool true), (.int 181 0), (.ref 60), .none, .none, .none, (.ref 61), (.int 260 0), (.int 20 0), (.str (Str.ofString "/claim/cut.py") 261)].toArray), [].toArray⟩) ::
  (nat_lit 63, ⟨(.type "function"), none, (.func { name := (Str.ofString "partitions"), qualname := (Str.ofString "ConsumerProtocolAssignment.partitions"), params := ct_3_1P, body := .stmts ct_3_1B, scope := ct_3_1S, globals := 3, closure := [], defaults := .none, kwdefaults := .none, doc := .none, pyModule := (.str (Str.ofString "kafka.coordinator.assignors.abstract") 194), annotations := none, code := (.ref 62), closureTuple := .none, builtins := 0 }), [].toArray⟩) ::
  (nat_lit 65, ⟨(.type "dict"), none, (.dict [⟨PyData.keyHash P (Str.ofString "__module__"), (.str (Str.ofString "__module__") 242), (.str (Str.ofString "kafka.coordinator.assignors.abstract") 194)⟩, ⟨PyData.keyHash P (Str.ofString "__firstlineno__"), (.str (Str.ofString "__firstlineno__") 246), (.int 13 245)⟩, ⟨PyData.keyHash P (Str.ofString "__init__"), (.str (Str.ofString "__init__") 256), (.ref 58)⟩, ⟨PyData.keyHash P (Str.ofString "partitions"), (.str (Str.ofString "partitions") 262), (.ref 63)⟩, ⟨PyData.keyHash P (Str.ofString "__static_attributes__"), (.str (Str.ofString "__static_attributes__") 266), (.ref 64)⟩, ⟨PyData.keyHash P (Str.ofString "__dict__"), (.str (Str.ofString "__dict__") 268), (.ref 67)⟩, ⟨PyData.keyHash P (Str.ofString "__weakref__"), (.str (Str.ofString "__weakref__") 270), (.ref 68)⟩, ⟨PyData.keyHash P (Str.ofString "__doc__"), (.str (Str.ofString "__doc__") 271), .none⟩].toArray 4), [].toArray⟩) ::
  (nat_lit 66, ⟨(.type "type"), none, (.cls { name := (Str.ofString "ConsumerProtocolAssignment"), bases := [(.type "object")], mro := [(.ref 66), (.type "object")], ns := 65, qualname := (Str.ofString "ConsumerProtocolAssignment"), hasDict := true, slotNames := [], subclasses := [], abstract := false, collection := none, hasDel := false }), [none, none, (some (.str (Str.ofString "ConsumerProtocolAssignment") 235)), (some (.str (Str.ofString "ConsumerProtocolAssignment") 243)), (some (.builtin "object.__new__")), (some (.bool true))].toArray⟩) ::
  (nat_lit 83, ⟨(.type "code"), none, (.fields [(.str (Str.ofString "__init__") 286), (.str (Str.ofString "Member.__init__") 287), (.str (Str.ofString "/claim/cut.py") 288), (.int 24 0), (.int 4 0), (.int 0 0), (.int 0 0), (.int 3 0), (.ref 78), (.bool true), (.int 181 0), (.ref 79), .none, (.ref 80), (.ref 81), (.ref 82), (.int 293 0), (.int 24 0), (.str (Str.ofString "/claim/cut.py") 294)].toArray), [].toArray⟩) ::
  (nat_lit 84, ⟨(.type "function"), none, (.func { name := (Str.ofString "__init__"), qualname := (Str.ofString "Member.__init__"), params := ct_4_0P, body := .stmts ct_4_0B, scope := ct_4_0S, globals := 3, closure := [], defaults := .none, kwdefaults := .none, doc := .none, pyModule := (.str (Str.ofString "kafka.coordinator.assignors.abstract") 194), annotations := none, code := (.ref 83), closureTuple := .none, builtins := 0 }), [].toArray⟩) ::
  (nat_lit 86, ⟨(.type "dict"), none, (.dict [⟨PyData.keyHash P (Str.ofString "__module__"), (.str (Str.ofString "__module__") 281), (.str (Str.ofString "kafka.coordinator.assignors.abstract") 194)⟩, ⟨PyData.keyHash P (Str.ofString "__firstlineno__"), (.str (Str.ofString "__firstlineno__") 285), (.int 22 284)⟩, ⟨PyData.keyHash P (Str.ofString "__init__"), (.str (Str.ofString "__init__") 295), (.ref 84)⟩, ⟨PyData.keyHash P (Str.ofString "__static_attributes__"), (.str (Str.ofString "__static_attributes__") 299), (.ref 85)⟩, ⟨PyData.keyHash P (Str.ofString "__dict__"), (.str (Str.ofString "__dict__") 301), (.ref 88)⟩, ⟨PyData.keyHash P (Str.ofString "__weakref__"), (.str (Str.ofString "__weakref__") 303), (.ref 89)⟩, ⟨PyData.keyHash P (Str.ofString "__doc__"), (.str (Str.ofString "__doc__") 304), .none⟩].toArray 4), [].toArray⟩) ::
  (nat_lit 87, ⟨(.type "type"), none, (.cls { name := (Str.ofString "Member"), bases := [(.type "object")], mro := [(.ref 87), (.type "object")], ns := 86, qualname := (Str.ofString "Member"), hasDict := true, slotNames := [], subclasses := [], abstract := false, collection := none, hasDel := false }), [none, none, (some (.str (Str.ofString "Member") 274)), (some (.str (Str.ofString "Member") 282)), (some (.builtin "object.__new__")), (some (.bool true))].toArray⟩) ::
  (nat_lit 104, ⟨(.type "code"), none, (.fields [(.str (Str.ofString "__init__") 319), (.str (Str.ofString "Cluster.__init__") 320), (.str (Str.ofString "/claim/cut.py") 321), (.int 30 0), (.int 2 0), (.int 0 0), (.int 0 0), (.int 3 0), (.ref 99), (.bool true), (.int 181 0), (.ref 100), .none, (.ref 101), (.ref 102), (.ref 103), (.int 324 0), (.int 30 0), (.str (Str.ofString "/claim/cut.py") 325)].toArray), [].toArray⟩) ::
  (nat_lit 105, ⟨(.type "function"), none, (.func { name := (Str.ofString "__init__"), qualname := (Str.ofString "Cluster.__init__"), params := ct_5_0P, body := .stmts ct_5_0B, scope := ct_5_0S, globals := 3, closure := [], defaults := .none, kwdefaults := .none, doc := .none, pyModule := (.str (Str.ofString "kafka.coordinator.assignors.abstract") 194), annotations := none, code := (.ref 104), closureTuple := .none, builtins := 0 }), [].toArray⟩) ::
  (nat_lit 111, ⟨(.type "code"), none, (.fields [(.str (Str.ofString "topics") 327), (.str (Str.ofString "Cluster.topics") 328), (.str (Str.ofString "/claim/cut.py") 329), (.int 33 0), (.int 1 0), (.int 0 0), (.int 0 0), (.int 3 0), (.ref 106), (.bool true), (.int 181 0), (.ref 107), .none, (.ref 108), (.ref 109), (.ref 110), (.int 331 0), (.int 33 0), (.str (Str.ofString "/claim/cut.py") 332)].toArray), [].toArray⟩) ::
  (nat_lit 112, ⟨(.type "function"), none, (.func { name := (Str.ofString "topics"), qualname := (Str.ofString "Cluster.topics"), params := ct_5_1P, body := .stmts ct_5_1B, scope := ct_5_1S, globals := 3, closure := [], defaults := .none, kwdefaults := .none, doc := .none, pyModule := (.str (Str.ofString "kafka.coordinator.assignors.abstract") 194), annotations := none, code := (.ref 111), closureTuple := .none, builtins := 0 }), [].toArray⟩) ::
  (nat_lit 118, ⟨(.type "code"), none, (.fields [(.str (Str.ofString "partitions_for_topic") 334), (.str (Str.ofString "Cluster.partitions_for_topic") 335), (.str (Str.ofString "/claim/cut.py") 336), (.int 36 0), (.int 2 0), (.int 0 0), (.int 0 0), (.int 3 0), (.ref 113), (.bool true), (.int 181 0), (.ref 114), .none, (.ref 115), (.ref 116), (.ref 117), (.int 339 0), (.int 36 0), (.str (Str.ofString "/claim/cut.py") 340)].toArray), [].toArray⟩) ::
  (nat_lit 119, ⟨(.type "function"), none, (.func { name := (Str.ofString "partitions_for_topic"), qualname := (Str.ofString "Cluster.partitions_for_topic"), params := ct_5_2P, body := .stmts ct_5_2B, scope := ct_5_2S, globals := 3, closure := [], defaults := .none, kwdefaults := .none, doc := .none, pyModule := (.str (Str.ofString "kafka.coordinator.assignors.abstract") 194), annotations := none, code := (.ref 118), closureTuple := .none, builtins := 0 }), [].toArray⟩) ::
  (nat_lit 121, ⟨(.type "dict"), none, (.dict [⟨PyData.keyHash P (Str.ofString "__module__"), (.str (Str.ofString "__module__") 314), (.str (Str.ofString "kafka.coordinator.assignors.abstract") 194)⟩, ⟨PyData.keyHash P (Str.ofString "__firstlineno__"), (.str (Str.ofString "__firstlineno__") 318), (.int 28 317)⟩, ⟨PyData.keyHash P (Str.ofString "__init__"), (.str (Str.ofString "__init__") 326), (.ref 105)⟩, ⟨PyData.keyHash P (Str.ofString "topics"), (.str (Str.ofString "topics") 333), (.ref 112)⟩, ⟨PyData.keyHash P (Str.ofString "partitions_for_topic"), (.str (Str.ofString "partitions_for_topic") 341), (.ref 119)⟩, ⟨PyData.keyHash P (Str.ofString "__static_attributes__"), (.str (Str.ofString "__static_attributes__") 343), (.ref 120)⟩, ⟨PyData.keyHash P (Str.ofString "__dict__"), (.str (Str.ofString "__dict__") 345), (.ref 123)⟩, ⟨PyData.keyHash P (Str.ofString "__weakref__"), (.str (Str.ofString "__weakref__") 347), (.ref 124)⟩, ⟨PyData.keyHash P (Str.ofString "__doc__"), (.str (Str.ofString "__doc__") 348), .none⟩].toArray 4), [].toArray⟩) ::
  (nat_lit 122, ⟨(.type "type"), none, (.cls { name := (Str.ofString "Cluster"), bases := [(.type "object")], mro := [(.ref 122), (.type "object")], ns := 121, qualname := (Str.ofString "Cluster"), hasDict := true, slotNames := [], subclasses := [], abstract := false, collection := none, hasDel := false }), [none, none, (some (.str (Str.ofString "Cluster") 307)), (some (.str (Str.ofString "Cluster") 315)), (some (.builtin "object.__new__")), (some (.bool true))].toArray⟩) ::
  (nat_lit 132, ⟨(.type "code"), none, (.fields [(.str (Str.ofString "grouped_by_kind") 351), (.str (Str.ofString "grouped_by_kind") 352), (.str (Str.ofString "/claim/cut.py") 353), (.int 38 0), (.int 1 0), (.int 0 0), (.int 0 0), (.int 3 0), (.ref 127), (.bool true), (.int 181 0), (.ref 128), .none, (.ref 129), (.ref 130), (.ref 131), (.int 359 0), (.int 38 0), (.str (Str.ofString "/claim/cut.py") 360)].toArray), [].toArray⟩) ::
  (nat_lit 133, ⟨(.type "function"), none, (.func { name := (Str.ofString "grouped_by_kind"), qualname := (Str.ofString "grouped_by_kind"), params := st_6P, body := .stmts st_6B, scope := st_6S, globals := 3, closure := [], defaults := .none, kwdefaults := .none, doc := .none, pyModule := (.str (Str.ofString "kafka.coordinator.assignors.abstract") 194), annotations := none, code := (.ref 132), closureTuple := .none, builtins := 0 }), [].toArray⟩) ::
  (nat_lit 139, ⟨(.type "code"), none, (.fields [(.str (Str.ofString "member_of") 362), (.str (Str.ofString "member_of") 363), (.str (Str.ofString "/claim/cut.py") 364), (.int 48 0), (.int 1 0), (.int 0 0), (.int 0 0), (.int 3 0), (.ref 134), (.bool true), (.int 181 0), (.ref 135), .none, (.ref 136), (.ref 137), (.ref 138), (.int 366 0), (.int 48 0), (.str (Str.ofString "/claim/cut.py") 367)].toArray), [].toArray⟩) ::
  (nat_lit 140, ⟨(.type "function"), none, (.func { name := (Str.ofString "member_of"), qualname := (Str.ofString "member_of"), params := st_7P, body := .stmts st_7B, scope := st_7S, globals := 3, closure := [], defaults := .none, kwdefaults := .none, doc := .none, pyModule := (.str (Str.ofString "kafka.coordinator.assignors.abstract") 194), annotations := none, code := (.ref 139), closureTuple := .none, builtins := 0 }), [].toArray⟩) ::
  (nat_lit 151, ⟨(.type "code"), none, (.fields [(.str (Str.ofString "assign") 387), (.str (Str.ofString "RangePartitionAssignor.assign") 388), (.str (Str.ofString "/claim/cut.py") 389), (.int 55 0), (.int 3 0), (.int 0 0), (.int 0 0), (.int 3 0), (.ref 148), (.bool true), (.int 181 0), (.ref 149), .none, .none, .none, (.ref 150), (.int 390 0), (.int 55 0), (.str (Str.ofString "/claim/cut.py") 391)].toArray), [].toArray⟩) ::
  (nat_lit 152, ⟨(.type "function"), none, (.func { name := (Str.ofString "assign"), qualname := (Str.ofString "RangePartitionAssignor.assign"), params := ct_9_2P, body := .stmts ct_9_2B, scope := ct_9_2S, globals := 3, closure := [], defaults := .none, kwdefaults := .none, doc := .none, pyModule := (.str (Str.ofString "kafka.coordinator.assignors.range") 369), annotations := (some 155), code := (.ref 151), closureTuple := .none, builtins := 0 }), [].toArray⟩) ::
  (nat_lit 153, ⟨(.type "dict"), none, (.dict [⟨PyData.keyHash P (Str.ofString "__module__"), (.str (Str.ofString "__module__") 393), (.str (Str.ofString "kafka.coordinator.assignors.range") 369)⟩, ⟨PyData.keyHash P (Str.ofString "__name__"), (.str (Str.ofString "__name__") 396), (.str (Str.ofString "assign") 395)⟩, ⟨PyData.keyHash P (Str.ofString "__qualname__"), (.str (Str.ofString "__qualname__") 399), (.str (Str.ofString "RangePartitionAssignor.assign") 398)⟩, ⟨PyData.keyHash P (Str.ofString "__doc__"), (.str (Str.ofString "__doc__") 401), .none⟩, ⟨PyData.keyHash P (Str.ofString "__annotations__"), (.str (Str.ofString "__annotations__") 403), (.ref 155)⟩].toArray 5), [].toArray⟩) ::
  (nat_lit 154, ⟨(.type "classmethod"), (some 153), (.fields [(.ref 152), (.bool false)].toArray), [].toArray⟩) ::
  (nat_lit 161, ⟨(.type "code"), none, (.fields [(.str (Str.ofString "metadata") 405), (.str (Str.ofString "RangePartitionAssignor.metadata") 406), (.str (Str.ofString "/claim/cut.py") 407), (.int 86 0), (.int 2 0), (.int 0 0), (.int 0 0), (.int 3 0), (.ref 156), (.bool true), (.int 181 0), (.ref 157), .none, (.ref 158), (.ref 159), (.ref 160), (.int 410 0), (.int 86 0), (.str (Str.ofString "/claim/cut.py") 411)].toArray), [].toArray⟩) ::
  (nat_lit 162, ⟨(.type "function"), none, (.func { name := (Str.ofString "metadata"), qualname := (Str.ofString "RangePartitionAssignor.metadata"), params := ct_9_3P, body := .stmts ct_9_3B, scope := ct_9_3S, globals := 3, closure := [], defaults := .none, kwdefaults := .none, doc := .none, pyModule := (.str (Str.ofString "kafka.coordinator.assignors.range") 369), annotations := (some 165), code := (.ref 161), closureTuple := .none, builtins := 0 }), [].toArray⟩) ::
  (nat_lit 163, ⟨(.type "dict"), none, (.dict [⟨PyData.keyHash P (Str.ofString "__module__"), (.str (Str.ofString "__module__") 413), (.str (Str.ofString "kafka.coordinator.assignors.range") 369)⟩, ⟨PyData.keyHash P (Str.ofString "__name__"), (.str (Str.ofString "__name__") 416), (.str (Str.ofString "metadata") 415)⟩, ⟨PyData.keyHash P (Str.ofString "__qualname__"), (.str (Str.ofString "__qualname__") 419), (.str (Str.ofString "RangePartitionAssignor.metadata") 418)⟩, ⟨PyData.keyHash P (Str.ofString "__doc__"), (.str (Str.ofString "__doc__") 421), .none⟩, ⟨PyData.keyHash P (Str.ofString "__annotations__"), (.str (Str.ofString "__annotations__") 423), (.ref 165)⟩].toArray 5), [].toArray⟩) ::
  (nat_lit 164, ⟨(.type "classmethod"), (some 163), (.fields [(.ref 162), (.bool false)].toArray), [].toArray⟩) ::
  (nat_lit 171, ⟨(.type "code"), none, (.fields [(.str (Str.ofString "on_assignment") 425), (.str (Str.ofString "RangePartitionAssignor.on_assignment") 426), (.str (Str.ofString "/claim/cut.py") 427), (.int 90 0), (.int 3 0), (.int 0 0), (.int 0 0), (.int 3 0), (.ref 166), (.bool true), (.int 181 0), (.ref 167), .none, (.ref 168), (.ref 169), (.ref 170), (.int 431 0), (.int 90 0), (.str (Str.ofString "/claim/cut.py") 432)].toArray), [].toArray⟩) ::
  (nat_lit 172, ⟨(.type "function"), none, (.func { name := (Str.ofString "on_assignment"), qualname := (Str.ofString "RangePartitionAssignor.on_assignment"), params := ct_9_4P, body := .stmts ct_9_4B, scope := ct_9_4S, globals := 3, closure := [], defaults := .none, kwdefaults := .none, doc := .none, pyModule := (.str (Str.ofString "kafka.coordinator.assignors.range") 369), annotations := (some 175), code := (.ref 171), closureTuple := .none, builtins := 0 }), [].toArray⟩) ::
  (nat_lit 173, ⟨(.type "dict"), none, (.dict [⟨PyData.keyHash P (Str.ofString "__module__"), (.str (Str.ofString "__module__") 434), (.str (Str.ofString "kafka.coordinator.assignors.range") 369)⟩, ⟨PyData.keyHash P (Str.ofString "__name__"), (.str (Str.ofString "__name__") 437), (.str (Str.ofString "on_assignment") 436)⟩, ⟨PyData.keyHash P (Str.ofString "__qualname__"), (.str (Str.ofString "__qualname__") 440), (.str (Str.ofString "RangePartitionAssignor.on_assignment") 439)⟩, ⟨PyData.keyHash P (Str.ofString "__doc__"), (.str (Str.ofString "__doc__") 442), .none⟩, ⟨PyData.keyHash P (Str.ofString "__annotations__"), (.str (Str.ofString "__annotations__") 444), (.ref 175)⟩].toArray 5), [].toArray⟩) ::
  (nat_lit 174, ⟨(.type "classmethod"), (some 173), (.fields [(.ref 172), (.bool false)].toArray), [].toArray⟩) ::
  (nat_lit 177, ⟨(.type "dict"), none, (.dict [⟨PyData.keyHash P (Str.ofString "__module__"), (.str (Str.ofString "__module__") 378), (.str (Str.ofString "kafka.coordinator.assignors.range") 369)⟩, ⟨PyData.keyHash P (Str.ofString "__firstlineno__"), (.str (Str.ofString "__firstlineno__") 382), (.int 51 381)⟩, ⟨PyData.keyHash P (Str.ofString "name"), (.str (Str.ofString "name") 384), (.str (Str.ofString "range") 383)⟩, ⟨PyData.keyHash P (Str.ofString "version"), (.str (Str.ofString "version") 386), (.int 0 385)⟩, ⟨PyData.keyHash P (Str.ofString "assign"), (.str (Str.ofString "assign") 404), (.ref 154)⟩, ⟨PyData.keyHash P (Str.ofString "metadata"), (.str (Str.ofString "metadata") 424), (.ref 164)⟩, ⟨PyData.keyHash P (Str.ofString "on_assignment"), (.str (Str.ofString "on_assignment") 445), (.ref 174)⟩, ⟨PyData.keyHash P (Str.ofString "__static_attributes__"), (.str (Str.ofString "__static_attributes__") 446), (.ref 176)⟩, ⟨PyData.keyHash P (Str.ofString "__dict__"), (.str (Str.ofString "__dict__") 448), (.ref 179)⟩, ⟨PyData.keyHash P (Str.ofString "__weakref__"), (.str (Str.ofString "__weakref__") 450), (.ref 180)⟩, ⟨PyData.keyHash P (Str.ofString "__doc__"), (.str (Str.ofString "__doc__") 451), .none⟩].toArray 4), [].toArray⟩) ::
  (nat_lit 178, ⟨(.type "type"), none, (.cls { name := (Str.ofString "RangePartitionAssignor"), bases := [(.type "object")], mro := [(.ref 178), (.type "object")], ns := 177, qualname := (Str.ofString "RangePartitionAssignor"), hasDict := true, slotNames := [], subclasses := [], abstract := false, collection := none, hasDel := false }), [none, none, (some (.str (Str.ofString "RangePartitionAssignor") 371)), (some (.str (Str.ofString "RangePartitionAssignor") 379)), (some (.builtin "object.__new__")), (some (.bool true))].toArray⟩) ::
  (nat_lit 188, ⟨(.type "code"), none, (.fields [(.str (Str.ofString "_law_next") 456), (.str (Str.ofString "_law_next") 457), (.str (Str.ofString "/claim/cut.py") 458), (.int 94 0), (.int 2 0), (.int 0 0), (.int 0 0), (.int 3 0), (.ref 183), (.bool true), (.int 181 0), (.ref 184), .none, (.ref 185), (.ref 186), (.ref 187), (.int 464 0), (.int 94 0), (.str (Str.ofString "/claim/cut.py") 465)].toArray), [].toArray⟩) ::
  (nat_lit 189, ⟨(.type "function"), none, (.func { name := (Str.ofString "_law_next"), qualname := (Str.ofString "_law_next"), params := st_11P, body := .stmts st_11B, scope := st_11S, globals := 3, closure := [], defaults := .none, kwdefaults := .none, doc := .none, pyModule := (.str (Str.ofString "law_je0013_01") 454), annotations := none, code := (.ref 188), closureTuple := .none, builtins := 0 }), [].toArray⟩) ::
  (nat_lit 195, ⟨(.type "code"), none, (.fields [(.str (Str.ofString "_law_mixed") 467), (.str (Str.ofString "_law_mixed") 468), (.str (Str.ofString "/claim/cut.py") 469), (.int 101 0), (.int 2 0), (.int 0 0), (.int 0 0), (.int 3 0), (.ref 190), (.bool true), (.int 181 0), (.ref 191), .none, (.ref 192), (.ref 193), (.ref 194), (.int 474 0), (.int 101 0), (.str (Str.ofString "/claim/cut.py") 475)].toArray), [].toArray⟩) ::
  (nat_lit 196, ⟨(.type "function"), none, (.func { name := (Str.ofString "_law_mixed"), qualname := (Str.ofString "_law_mixed"), params := st_12P, body := .stmts st_12B, scope := st_12S, globals := 3, closure := [], defaults := .none, kwdefaults := .none, doc := .none, pyModule := (.str (Str.ofString "law_je0013_01") 454), annotations := none, code := (.ref 195), closureTuple := .none, builtins := 0 }), [].toArray⟩) ::
  (nat_lit 200, ⟨(.type "code"), none, (.fields [(.str (Str.ofString "law") 477), (.str (Str.ofString "law") 478), (.str (Str.ofString "/claim/cut.py") 479), (.int 107 0), (.int 1 0), (.int 0 0), (.int 0 0), (.int 3 0), (.ref 197), (.bool true), (.int 181 0), (.ref 198), .none, .none, .none, (.ref 199), (.int 480 0), (.int 107 0), (.str (Str.ofString "/claim/cut.py") 481)].toArray), [].toArray⟩) ::
  (nat_lit 201, ⟨(.type "function"), none, (.func { name := (Str.ofString "law"), qualname := (Str.ofString "law"), params := st_13P, body := .stmts st_13B, scope := st_13S, globals := 3, closure := [], defaults := .none, kwdefaults := .none, doc := .none, pyModule := (.str (Str.ofString "law_je0013_01") 454), annotations := none, code := (.ref 200), closureTuple := .none, builtins := 0 }), [].toArray⟩) :: []
noncomputable def KK : Params → Frag := fun P => by
  refine' (?f : (k : Frag) → k = rawK P → Frag) _ ?h
  case h =>
    delta rawK ct_2_0P ct_2_0B ct_2_0S ct_3_0P ct_3_0B ct_3_0S ct_3_1P ct_3_1B ct_3_1S ct_4_0P ct_4_0B ct_4_0S ct_5_0P ct_5_0B ct_5_0S ct_5_1P ct_5_1B ct_5_1S ct_5_2P ct_5_2B ct_5_2S ct_9_2P ct_9_2B ct_9_2S ct_9_3P ct_9_3B ct_9_3S ct_9_4P ct_9_4B ct_9_4S st_11P st_11B st_11S st_12P st_12B st_12S st_13P st_13B st_13S st_6P st_6B st_6S st_7P st_7B st_7S
    conv => rhs; whnf
  case f => exact fun k _ => k
noncomputable def VV : Program := by
  refine' (?f : (k : Program) → k = { PySem.Challenge.rw_je0013_01.row.toRowW.prog with main := { PySem.Challenge.rw_je0013_01.row.toRowW.prog.main with body := [cell0, cell2, cell3, cell4, cell5, cell6, cell7, cell9, cell11, cell12, cell13] } } → Program) _ ?h
  case h =>
    delta cell0 cell2 cell3 cell4 cell5 cell6 cell7 cell9 cell11 cell12 cell13
    rfl
  case f => exact fun k _ => k
noncomputable def KA : List Addr := [2, 3, 29, 30, 36, 37, 39, 40, 57, 58, 62, 63, 65, 66, 83, 84, 86, 87, 104, 105, 111, 112, 118, 119, 121, 122, 132, 133, 139, 140, 151, 152, 153, 154, 161, 162, 163, 164, 171, 172, 173, 174, 177, 178, 188, 189, 195, 196, 200, 201]

end
section
theorem fa1 {P : Addr × Obj → Prop} {a : Addr × Obj} {l : List (Addr × Obj)} (h : P a) (t : ∀ p ∈ l, P p) : ∀ p ∈ a :: l, P p := List.forall_mem_cons.mpr ⟨h, t⟩
/-- the shape of a ledger put together, to tell inclusion by figures -/
inductive LT
  | v (i : Nat)
  | a (t u : LT)
noncomputable def LT.den (L : List (List (Addr × Obj))) : LT → List (Addr × Obj)
  | .v i => L.getD i []
  | .a t u => t.den L ++ u.den L
noncomputable def LT.has (i : Nat) : LT → Bool
  | .v j => Nat.beq i j
  | .a t u => t.has i || u.has i
noncomputable def LT.le (u : LT) : LT → Bool
  | .v i => u.has i
  | .a t t' => LT.le u t && LT.le u t'
theorem LT.has_den {L : List (List (Addr × Obj))} {i : Nat} : ∀ {u : LT}, u.has i = true → ∀ p ∈ L.getD i [], p ∈ u.den L
  | .v j, h, p, hp => by
    have := Nat.eq_of_beq_eq_true h
    subst this
    exact hp
  | .a t u, h, p, hp => by
    rcases Bool.or_eq_true_iff.mp h with h | h
    · exact List.mem_append_left _ (LT.has_den h p hp)
    · exact List.mem_append_right _ (LT.has_den h p hp)
theorem sub_ok (L : List (List (Addr × Obj))) (u : LT) : ∀ (t : LT), LT.le u t = true → ∀ p ∈ t.den L, p ∈ u.den L
  | .v _, h, p, hp => LT.has_den h p hp
  | .a t t', h, p, hp => by
    have h := Bool.and_eq_true_iff.mp h
    rcases List.mem_append.mp hp with hp | hp
    · exact sub_ok L u t h.1 p hp
    · exact sub_ok L u t' h.2 p hp

end
section
structure Stop (P : Prop) : Prop where
  out : P
theorem jIsL {h₀ h : Heap} {L l : Addr} {news : List (Addr × Obj)} {vs : List Value} {n : Nat} (N : News h₀ L h news) (hm : (l, listOf vs.toArray n) ∈ news) : h.IsList l vs.toArray := ⟨_, (N _ hm).1, rfl, n, rfl⟩
theorem jsub {h₀ h : Heap} {L : Addr} {news news' : List (Addr × Obj)} (N : News h₀ L h news) (hs : ∀ p ∈ news', p ∈ news) : News h₀ L h news' := fun p hp => N p (hs p hp)
section
variable {prog : Program} {w : World} {A : Around} {E : Value → Shared → Prop} {s : Shared} {h₀ : Heap} {L l : Addr} {m : Str → Option Value} {news : List (Addr × Obj)} {vs : List Value} {n : Nat}
theorem j_len {Q : Value → Shared → Prop} (N : News h₀ L s.heap news) (hm : (l, listOf vs.toArray n) ∈ news) (hb : vs.length < 1000)
    (h : ∀ t tk, Q (.int vs.length t) { s with toks := tk }) : wpAny (model prog w) A (call (.builtin "len") [.ref l]) Q E s :=
  len_list (jIsL N hm) (by rw [List.size_toArray]; omega) (by rw [List.size_toArray]; exact h _ _)
theorem j_truthy {Q : Bool → Shared → Prop} (N : News h₀ L s.heap news) (hm : (l, listOf vs.toArray n) ∈ news) (hb : vs.length < 1000)
    (h : ∀ tk, Q (decide (vs ≠ [])) { s with toks := tk }) : wpAny (model prog w) A (truthy (.ref l)) Q E s :=
  wpAny_truthy_list (jIsL N hm) (by rw [List.size_toArray]; omega) (by
    have e : (!vs.toArray.isEmpty) = decide (vs ≠ []) := by cases vs <;> simp
    rw [e]; exact h _)
theorem j_copy {Q : Value → Shared → Prop} (F : Fr h₀ L s.heap m) (N : News h₀ L s.heap news) (hm : (l, listOf vs.toArray n) ∈ news) (hb : vs.length < 1000)
    (h : ∀ D c h', Fr h₀ L h' m → News h₀ L h' ((D, listOf vs.toArray c) :: news) → (∀ q ∈ news, q.1 < D) → Q (.ref D) { s with heap := h' }) : wpAny (model prog w) A (call (.type "list") [.ref l]) Q E s :=
  list_copyK F N (jIsL N hm) h (by rw [List.size_toArray, sizeLine_eq]; omega)
theorem j_fits {i : Int} (h0 : 0 ≤ i) (h1 : i < 1000) : Builtin.List.listFitsIndex i = true := by
  unfold Builtin.List.listFitsIndex
  simp only [Bool.and_eq_true, decide_eq_true_eq]
  omega
theorem j_seqIndex {i : Int} {k : Nat} (h0 : 0 ≤ i) (h1 : i < k) : seqIndex? i k = some i.toNat := by
  unfold seqIndex?
  have e : ¬ i < 0 := by omega
  simp only [e, if_false]
  simp [h0, h1]
theorem j_cut : ∀ (us : List Value) (k : Nat), k < us.length → ∃ p y q, kl_cut us k = some (p, y, q)
  | [], _, h => absurd h (Nat.not_lt_zero _)
  | x :: r, 0, _ => ⟨[], x, r, rfl⟩
  | x :: r, k + 1, h => by
    obtain ⟨p, y, q, e⟩ := j_cut r k (Nat.lt_of_succ_lt_succ h)
    exact ⟨x :: p, y, q, by simp [kl_cut, e]⟩
theorem updOf {d : Addr} {o o' : Obj} {news : List (Addr × Obj)} {g : Obj → List (Addr × Obj)} (U : UpdF d o news g) : Upd d o o' news (g o') := by
  induction U with
  | head h => exact .head h
  | tail h _ ih => exact .tail h ih
theorem j_popAt {i : Int} {u : Tok} {g : Obj → List (Addr × Obj)} {Q : Value → Shared → Prop} (F : Fr h₀ L s.heap m) (N : News h₀ L s.heap news) (U : UpdF l (listOf vs.toArray n) news g) (h0 : 0 ≤ i) (h1 : i < vs.length) (hb : vs.length < 1000)
    (h : ∀ p y q n' h', vs = p ++ y :: q → Fr h₀ L h' m → News h₀ L h' (g (listOf (p ++ q).toArray n')) → Q y { s with heap := h' }) : wpAny (model prog w) A (call (.builtin "list.pop") [.ref l, .int i u]) Q E s := by
  obtain ⟨p, y, q, e⟩ := j_cut vs i.toNat (by omega)
  exact kl_popAt F N (j_fits h0 (by omega)) (j_seqIndex h0 (by rw [List.size_toArray]; exact h1)) e (updOf U) (by rw [sizeLine_eq]; show vs.length ≤ _; omega) fun h' F' N' => h p y q (n + 1) h' (kl_cut_spec e).1 F' N'
theorem j_truthyC {v : Value} {Q : Bool → Shared → Prop} (N : News h₀ L s.heap news) (hm : (l, listOf (List.toArray (v :: vs)) n) ∈ news) (hb : (v :: vs).length < 1000)
    (h : ∀ tk, Q true { s with toks := tk }) : wpAny (model prog w) A (truthy (.ref l)) Q E s :=
  j_truthy N hm hb fun tk => by simpa using h tk
theorem j_truthyN {Q : Bool → Shared → Prop} (N : News h₀ L s.heap news) (hm : (l, listOf (List.toArray []) n) ∈ news)
    (h : ∀ tk, Q false { s with toks := tk }) : wpAny (model prog w) A (truthy (.ref l)) Q E s :=
  j_truthy N hm (by simp) fun tk => by simpa using h tk
end
def WStep (h₀ : Heap) (L : Addr) (s : Shared) (m : Str → Option Value) (J : Nat → List (Addr × Obj) → Prop) (Q : Flow → Shared → Prop) (n : Nat) (f : Flow) (s₃ : Shared) : Prop :=
  match f with
  | .next | .cont => ∃ h' tk news₂ n', s₃ = { s with heap := h', toks := tk } ∧ Fr h₀ L h' m ∧ News h₀ L h' news₂ ∧ n' < n ∧ J n' news₂
  | .brk => Q .next s₃
  | .ret v => Q (.ret v) s₃
section
variable {prog : Program} {w : World} {A : Around} {E : Value → Shared → Prop} {Q : Flow → Shared → Prop} {s : Shared} {env : Env} {h₀ : Heap} {L : Addr}
theorem while_fix {test : Expr} {body : List Stmt} {pos : Pos} {m : Str → Option Value} {news : List (Addr × Obj)} (J : Nat → List (Addr × Obj) → Prop) (n₀ : Nat)
    (F : Fr h₀ L s.heap m) (N : News h₀ L s.heap news) (hJ : J n₀ news)
    (turn : ∀ n news₁ h₁ tk₁, Fr h₀ L h₁ m → News h₀ L h₁ news₁ → J n news₁ →
      wpAny (model prog w) A (isTrue test env (eval test env)) (fun b s₂ =>
        if b = true then wpAny (model prog w) A (execs body env) (WStep h₀ L s m J Q n) E s₂ else Q .next s₂) E { s with heap := h₁, toks := tk₁ })
    (hE : PassesOwn (model prog w) A env E := by passes_own) :
    wpAny (model prog w) A (exec (.While test body [] pos) env) Q E s := by
  refine While_inv2 (fun n m₁ nx => m₁ = m ∧ J n nx) F N ⟨rfl, hJ⟩ ?_ hE
  rintro n m₁ news₁ h₁ tk₁ F₁ N₁ ⟨rfl, hJ₁⟩
  refine wpAny_mono (turn n news₁ h₁ tk₁ F₁ N₁ hJ₁) (fun b s₂ hb => ?_) fun _ _ e => e
  cases b with
  | false => exact hb
  | true =>
    simp only [if_true] at hb ⊢
    refine wpAny_mono hb (fun f s₃ hf => ?_) fun _ _ e => e
    cases f with
    | ret v => exact hf
    | brk => exact hf
    | next => obtain ⟨h', tk, nx, n', e, F', N', hl, hj⟩ := hf; exact ⟨h', tk, m₁, nx, n', e, F', N', hl, rfl, hj⟩
    | cont => obtain ⟨h', tk, nx, n', e, F', N', hl, hj⟩ := hf; exact ⟨h', tk, m₁, nx, n', e, F', N', hl, rfl, hj⟩
end
theorem updF_perm {d : Addr} {o : Obj} {news : List (Addr × Obj)} {g : Obj → List (Addr × Obj)} (U : UpdF d o news g) : ∃ R, (∀ p ∈ R, p.1 ≠ d) ∧ (∀ p, p ∈ (d, o) :: R ↔ p ∈ news) ∧ ∀ o' p, p ∈ g o' ↔ p ∈ (d, o') :: R := by
  obtain ⟨pre, post, e, hg, a, b⟩ := U.split
  refine ⟨pre ++ post, fun p hp => (List.mem_append.mp hp).elim (a p) (b p), fun p => ?_, fun o' p => ?_⟩
  · rw [e]; simp only [List.mem_cons, List.mem_append]; constructor
    · rintro (h | h | h) <;> simp [h]
    · rintro (h | h | h) <;> simp [h]
  · rw [hg]; simp only [List.mem_cons, List.mem_append]; constructor
    · rintro (h | h | h) <;> simp [h]
    · rintro (h | h | h) <;> simp [h]
theorem ltOut {d : Addr} {l : List (Addr × Obj)} (h : AllLt d l) : ∀ p ∈ l, p.1 < d := by
  induction l with
  | nil => intro p hp; exact absurd hp (List.not_mem_nil)
  | cons a r ih =>
    intro p hp
    obtain ⟨h1, h2⟩ := h
    rcases List.mem_cons.mp hp with e | hp
    · rw [e]; exact h1
    · exact ih h2 p hp
end
section
section
variable {M : Model} {A : Around} {E : Value → Shared → Prop} {s : Shared} {h₀ : Heap} {L C : Addr} {m m₂ : Str → Option Value} {news : List (Addr × Obj)} {g : Obj → List (Addr × Obj)} {oC : Obj} {scope : Scope} {cl : List (Str × Addr)} {env : Env} {x : Str} {v : Value}
theorem jst_own {Q : Unit → Shared → Prop} (F : Fr h₀ L s.heap m) (N : News h₀ L s.heap news) (U : UpdF C oC news g) (hC : LCg.NsObj oC m₂)
    (h : ∀ h' oC', Fr h₀ L h' m → News h₀ L h' (g oC') → LCg.NsObj oC' (fun y => if y = x then some v else m₂ y) → Q () { s with heap := h', toks := s.toks + 1 })
    (hk : scope.kind = .function) (hl : (compEnvC scope cl C env).kindOf x = some .local) : wpAny M A (storeName (compEnvC scope cl C env) x v) Q E s := by
  obtain ⟨pre, post, rfl, hg, a, b⟩ := U.split
  have z := N (C, oC) (List.mem_append_right _ (.head _))
  refine wpAny_storeName_local hl (hC.ns z.1) (fun h' hn' hs => ?_) (by
    show (scope.kind == .class || (scope.kind == .module && C != env.globals)) = false
    rw [hk]; rfl)
  obtain ⟨oC', ho', hC'⟩ := LCg.ns_obj hn'
  exact h h' oC' (F.change hs z.2.1 z.2.2) (hg oC' ▸ N.setIn a b hs ho') hC'
theorem datAll_get {news : List (Addr × Obj)} {vs : List Value} {ds : List Dat} (h : DatAll news vs ds) {i : Nat} {v : Value} (hv : vs[i]? = some v) : ∃ d, ds[i]? = some d ∧ DatIn news v d := by
  have hi : i < vs.length := (List.getElem?_eq_some_iff.mp hv).1
  have hi' : i < ds.length := by rw [← h.length]; exact hi
  obtain ⟨v', hv', hd⟩ := h.get hi'
  rw [hv] at hv'; cases hv'
  exact ⟨_, List.getElem?_eq_getElem hi', hd⟩
theorem datAll_ints {news : List (Addr × Obj)} : ∀ {vs : List Value} {ns : List Int}, DatAll news vs (ns.map Dat.int) → IntsAre vs ns
  | [], [], _ => .nil
  | _, n :: ns, h => by
    cases h with
    | cons h r => cases h; exact .cons _ _ (datAll_ints r)
  | _ :: _, [], h => by cases h
theorem datAll_ofInts {news : List (Addr × Obj)} {vs : List Value} {ns : List Int} (h : IntsAre vs ns) : DatAll news vs (ns.map Dat.int) := by
  induction h with
  | nil => exact .nil
  | cons i t _ ih => exact .cons (.int _ _) ih
end

end
section
def jrun {α : Type} (lt : Nat → Nat → Bool) : KasT α → α
  | .ret a => a
  | .ask i j k => jrun lt (k (lt i j))
def jreach (acc : List (Nat × Nat)) : Nat → Nat → Nat → Bool
  | 0, a, b => a == b
  | f + 1, a, b => a == b || acc.any fun e => e.1 == a && jreach acc f e.2 b
def jadj (acc : List (Nat × Nat)) (n : Nat) : List Nat → Bool
  | a :: b :: r => jreach acc n a b && jadj acc n (b :: r)
  | _ => true
def okT (n : Nat) : List (Nat × Nat) → List (Nat × Nat) → KasT (Array Nat) → Bool
  | st, acc, .ret p => p.toList.isPerm (List.range n) && jadj acc n p.toList
  | st, acc, .ask i j k => decide (i < n) && decide (j < n) && (jreach acc n j i || okT n ((i, j) :: st) ((i, j) :: acc) (k true)) &&
    (st.any (fun e => jreach acc n i e.1 && jreach acc n e.2 j) || okT n st ((j, i) :: acc) (k false))
theorem okT2 : okT 2 [] [] (kas_sort 2) = true := by decide +kernel
theorem okT3 : okT 3 [] [] (kas_sort 3) = true := by decide +kernel
theorem okT4 : okT 4 [] [] (kas_sort 4) = true := by decide +kernel
theorem okT5 : okT 5 [] [] (kas_sort 5) = true := by decide +kernel
theorem okTn {n : Nat} (h2 : 2 ≤ n) (h5 : n ≤ 5) : okT n [] [] (kas_sort n) = true := by
  match n, h2, h5 with
  | 2, _, _ => exact okT2
  | 3, _, _ => exact okT3
  | 4, _, _ => exact okT4
  | 5, _, _ => exact okT5
structure Ord2 (lt : Nat → Nat → Bool) : Prop where
  asymm : ∀ a b, lt a b = true → lt b a = false
  trans : ∀ a b c, lt b a = false → lt c b = false → lt c a = false
theorem Ord2.irrefl {lt : Nat → Nat → Bool} (o : Ord2 lt) (a : Nat) : lt a a = false := by
  cases h : lt a a with
  | false => rfl
  | true => rw [← h]; exact o.asymm a a h
theorem jreach_le {lt : Nat → Nat → Bool} (o : Ord2 lt) {acc : List (Nat × Nat)} (h : ∀ e ∈ acc, lt e.2 e.1 = false) : ∀ (f a b : Nat), jreach acc f a b = true → lt b a = false
  | 0, a, b, hr => by
    have : a = b := by simpa [jreach] using hr
    subst this; exact o.irrefl a
  | f + 1, a, b, hr => by
    simp only [jreach, Bool.or_eq_true, beq_iff_eq, List.any_eq_true, Bool.and_eq_true] at hr
    rcases hr with rfl | ⟨e, he, e1, e2⟩
    · exact o.irrefl _
    · exact o.trans _ _ _ (e1 ▸ h e he) (jreach_le o h f _ _ e2)
theorem jadj_pw {lt : Nat → Nat → Bool} (o : Ord2 lt) {acc : List (Nat × Nat)} (h : ∀ e ∈ acc, lt e.2 e.1 = false) {n : Nat} : ∀ (l : List Nat), jadj acc n l = true → l.Pairwise (fun a b => lt b a = false)
  | [], _ => .nil
  | [_], _ => List.pairwise_singleton _ _
  | a :: b :: r, hl => by
    simp only [jadj, Bool.and_eq_true] at hl
    have ih := jadj_pw o h (b :: r) hl.2
    refine List.pairwise_cons.mpr ⟨fun c hc => ?_, ih⟩
    have ab := jreach_le o h n a b hl.1
    rcases List.mem_cons.mp hc with rfl | hc
    · exact ab
    · exact o.trans _ _ _ ab ((List.pairwise_cons.mp ih).1 c hc)
theorem jrun_ok {lt : Nat → Nat → Bool} (o : Ord2 lt) {n : Nat} : ∀ (T : KasT (Array Nat)) (st acc : List (Nat × Nat)), okT n st acc T = true → (∀ e ∈ st, lt e.1 e.2 = true) → (∀ e ∈ acc, lt e.2 e.1 = false) →
    (jrun lt T).toList.Perm (List.range n) ∧ (jrun lt T).toList.Pairwise (fun a b => lt b a = false)
  | .ret p, st, acc, h, h1, h2 => by
    simp only [okT, Bool.and_eq_true] at h
    exact ⟨List.isPerm_iff.mp h.1, jadj_pw o h2 _ h.2⟩
  | .ask i j k, st, acc, h, h1, h2 => by
    simp only [okT, Bool.and_eq_true, Bool.or_eq_true, decide_eq_true_eq, List.any_eq_true] at h
    obtain ⟨⟨⟨hi, hj⟩, ht⟩, hf⟩ := h
    show (jrun lt (k (lt i j))).toList.Perm _ ∧ (jrun lt (k (lt i j))).toList.Pairwise _
    cases hl : lt i j with
    | true =>
      refine jrun_ok o (k true) ((i, j) :: st) ((i, j) :: acc) (ht.resolve_left fun hr => ?_) ?_ ?_
      · have := jreach_le o h2 n j i hr
        rw [hl] at this; cases this
      · intro e he
        rcases List.mem_cons.mp he with rfl | he
        · exact hl
        · exact h1 e he
      · intro e he
        rcases List.mem_cons.mp he with rfl | he
        · exact o.asymm _ _ hl
        · exact h2 e he
    | false =>
      refine jrun_ok o (k false) st ((j, i) :: acc) (hf.resolve_left fun ⟨e, he, ha, hb⟩ => ?_) h1 ?_
      · have l1 := jreach_le o h2 n i e.1 ha
        have l2 := jreach_le o h2 n e.2 j hb
        have := o.trans _ _ _ (o.trans _ _ _ l2 hl) l1
        rw [h1 e he] at this; cases this
      · intro e he
        rcases List.mem_cons.mp he with rfl | he
        · exact hl
        · exact h2 e he
theorem jrun_wp {lt : Nat → Nat → Bool} {n : Nat} {cmp : Nat → Nat → (Bool → Shared → Prop) → Shared → Prop} {s : Shared} (hc : ∀ i j C, i < n → j < n → C (lt i j) s → cmp i j C s) {Q : Array Nat → Shared → Prop} : ∀ (T : KasT (Array Nat)) (st acc : List (Nat × Nat)), (o : Ord2 lt) → okT n st acc T = true → (∀ e ∈ st, lt e.1 e.2 = true) → (∀ e ∈ acc, lt e.2 e.1 = false) →
    Q (jrun lt T) s → T.kasWp cmp Q s
  | .ret p, _, _, _, _, _, _, q => q
  | .ask i j k, st, acc, o, h, h1, h2, q => by
    simp only [okT, Bool.and_eq_true, Bool.or_eq_true, decide_eq_true_eq, List.any_eq_true] at h
    obtain ⟨⟨⟨hi, hj⟩, ht⟩, hf⟩ := h
    refine hc i j _ hi hj ?_
    have q' : Q (jrun lt (k (lt i j))) s := q
    cases hl : lt i j with
    | true =>
      rw [hl] at q'
      refine jrun_wp hc (k true) ((i, j) :: st) ((i, j) :: acc) o (ht.resolve_left fun hr => ?_) ?_ ?_ q'
      · have := jreach_le o h2 n j i hr
        rw [hl] at this; cases this
      · intro e he
        rcases List.mem_cons.mp he with rfl | he
        · exact hl
        · exact h1 e he
      · intro e he
        rcases List.mem_cons.mp he with rfl | he
        · exact o.asymm _ _ hl
        · exact h2 e he
    | false =>
      rw [hl] at q'
      refine jrun_wp hc (k false) st ((j, i) :: acc) o (hf.resolve_left fun ⟨e, he, ha, hb⟩ => ?_) h1 ?_ q'
      · have l1 := jreach_le o h2 n i e.1 ha
        have l2 := jreach_le o h2 n e.2 j hb
        have := o.trans _ _ _ (o.trans _ _ _ l2 hl) l1
        rw [h1 e he] at this; cases this
      · intro e he
        rcases List.mem_cons.mp he with rfl | he
        · exact hl
        · exact h2 e he
def ltAt {α : Type} (lt : α → α → Bool) (l : List α) (i j : Nat) : Bool := match l[i]?, l[j]? with
  | some x, some y => lt x y
  | some _, none => true
  | _, _ => false
structure LtOk {α : Type} (lt : α → α → Bool) : Prop where
  asymm : ∀ a b, lt a b = true → lt b a = false
  trans : ∀ a b c, lt b a = false → lt c b = false → lt c a = false
theorem LtOk.at {α : Type} {lt : α → α → Bool} (o : LtOk lt) (l : List α) : Ord2 (ltAt lt l) := by
  constructor
  · intro a b h
    unfold ltAt at h ⊢
    cases ha : l[a]? <;> cases hb : l[b]? <;> simp_all
    exact o.asymm _ _ h
  · intro a b c h1 h2
    unfold ltAt at h1 h2 ⊢
    cases ha : l[a]? <;> cases hb : l[b]? <;> cases hc : l[c]? <;> simp_all
    exact o.trans _ _ _ h1 h2
/-- the order in which the places stand after the sort -/
def jperm {α : Type} (lt : α → α → Bool) (l : List α) : List Nat := if l.length < 2 then List.range l.length else (jrun (ltAt lt l) (kas_sort l.length)).toList
def jsrt {α : Type} (lt : α → α → Bool) (l : List α) : List α := (jperm lt l).filterMap fun i => l[i]?
theorem jperm_perm {α : Type} {lt : α → α → Bool} (o : LtOk lt) {l : List α} (h : l.length ≤ 5) : (jperm lt l).Perm (List.range l.length) := by
  unfold jperm
  split
  · exact .refl _
  · exact (jrun_ok (o.at l) _ [] [] (okTn (by omega) h) (by simp) (by simp)).1
theorem jrange_get {α : Type} : ∀ (l : List α), (List.range l.length).filterMap (fun i => l[i]?) = l
  | [] => rfl
  | x :: r => by
    rw [List.length_cons, List.range_succ_eq_map, List.filterMap_cons]
    simp only [List.getElem?_cons_zero, List.filterMap_map, Function.comp_def, List.getElem?_cons_succ]
    rw [jrange_get r]
theorem jsrt_perm {α : Type} {lt : α → α → Bool} (o : LtOk lt) {l : List α} (h : l.length ≤ 5) : (jsrt lt l).Perm l := by
  have := (jperm_perm o h).filterMap fun i => l[i]?
  rw [jrange_get] at this
  exact this
theorem jsrt_pw {α : Type} {lt : α → α → Bool} (o : LtOk lt) {l : List α} (h : l.length ≤ 5) : (jsrt lt l).Pairwise (fun a b => lt b a = false) := by
  unfold jsrt jperm
  split
  · rw [jrange_get]
    match l with
    | [] => exact .nil
    | [_] => exact List.pairwise_singleton _ _
    | _ :: _ :: _ => simp at *; omega
  · have := (jrun_ok (o.at l) _ [] [] (okTn (by omega) h) (by simp) (by simp)).2
    refine this.filterMap _ fun a b hab x hx y hy => ?_
    unfold ltAt at hab
    rw [hx, hy] at hab
    exact hab
theorem ltAt_map {α β : Type} (lt : β → β → Bool) (f : α → β) (l : List α) : ltAt lt (l.map f) = ltAt (fun a b => lt (f a) (f b)) l := by
  funext i j
  unfold ltAt
  simp only [List.getElem?_map]
  cases l[i]? <;> cases l[j]? <;> rfl
theorem jperm_map {α β : Type} (lt : β → β → Bool) (f : α → β) (l : List α) : jperm lt (l.map f) = jperm (fun a b => lt (f a) (f b)) l := by
  unfold jperm
  rw [List.length_map, ltAt_map]
theorem jsrt_map {α β : Type} (lt : β → β → Bool) (f : α → β) (l : List α) : jsrt lt (l.map f) = (jsrt (fun a b => lt (f a) (f b)) l).map f := by
  unfold jsrt
  rw [jperm_map, List.map_filterMap]
  simp only [List.getElem?_map]

end
section
section
variable {prog : Program} {w : World} {A : Around} {E : Value → Shared → Prop} {s : Shared} {h₀ : Heap} {L a kS : Addr} {m : Str → Option Value} {news : List (Addr × Obj)} {vs ks : List Value}
theorem jss_list {n : Nat} {P : PySem.Fin → Shared → Prop} (F : Fr h₀ L s.heap m) (N : News h₀ L s.heap news) (ho : s.heap.get? a = some (seqObj "list" vs.toArray n)) (haL : a ≠ L) (ha0 : h₀.get? a = none) (hna : ∀ p ∈ news, p.1 ≠ a)
    (h2 : vs.length < 2) (h : ∀ h' c, Fr h₀ L h' m → News h₀ L h' ((a, listOf vs.toArray c) :: news) → P (.done (.ret .none)) { s with heap := h' }) :
    wpAny (model prog w) A (Builtin.«list.sort» ⟨[.ref a], []⟩) P E s := by
  have s1 := Heap.SameBut.update s.heap a (Obj.mapSeq fun _ => (#[] : Array Value))
  obtain ⟨e1, ho1⟩ : ∃ e1, (s.heap.update a (Obj.mapSeq fun _ => (#[] : Array Value))).get? a = some (seqObj "list" #[] e1) := ⟨_, get?_update_seq ho fun _ => #[]⟩
  have F3 : Fr h₀ L (((s.heap.update a (Obj.mapSeq fun _ => (#[] : Array Value))).push (seqObj "tuple" vs.toArray 0)).push (seqObj "list" #[] 0)) m := ((kas_fr F s1 haL ha0).push _).push _
  have N2 : News h₀ L (((s.heap.update a (Obj.mapSeq fun _ => (#[] : Array Value))).push (seqObj "tuple" vs.toArray 0)).push (seqObj "list" #[] 0)) news :=
    (kas_news N s1 hna).grown fun b x e => Heap.get?_push_of_some _ (Heap.get?_push_of_some _ e)
  have ho6 : (((s.heap.update a (Obj.mapSeq fun _ => (#[] : Array Value))).push (seqObj "tuple" vs.toArray 0)).push (seqObj "list" #[] 0)).get? a = some (seqObj "list" #[] e1) := Heap.get?_push_of_some _ (Heap.get?_push_of_some _ ho1)
  rw [list_sort_plain]
  refine wpAny_bind (listItems_at ho rfl ?_)
  refine wpAny_bind (listUpdate_at ho rfl ?_ (by rw [List.size_toArray, sizeLine_eq]; omega) (Nat.zero_le _))
  refine wpAny_bind (seqEpoch_at ho1 rfl ?_)
  refine wpAny_bind (wpAny_newTuple ?_ (by show vs.length ≤ _; rw [sizeLine_eq]; omega))
  refine wpAny_bind (wpAny_newList ?_ (Nat.zero_le _))
  refine wpAny_holding ?_
  show wpAny (model prog w) A _ P E { s with heap := ((s.heap.update a (Obj.mapSeq fun _ => (#[] : Array Value))).push (seqObj "tuple" vs.toArray 0)).push (seqObj "list" #[] 0) }
  dsimp only
  have hn2 : vs.toArray.size < 2 := by rw [List.size_toArray]; omega
  rw [if_pos hn2, if_pos hn2]
  refine wpAny_bind (wpAny_pure ?_)
  rw [StateT.run_pure]
  refine wpAny_bind (wpAny_pure ?_)
  dsimp only
  refine wpAny_bind (seqEpoch_at ho6 rfl ?_)
  have hout : (arrOf (SortSt.mk' general' (vs.toArray.zip vs.toArray) #[] 7 none)).map (·.2) = vs.toArray := by
    show (vs.toArray.zip vs.toArray).map (·.2) = vs.toArray
    apply Array.toList_inj.mp
    simp only [Array.toList_map, Array.toList_zip]
    exact List.map_snd_zip (Nat.le_refl _)
  rw [hout]
  have s2 := Heap.SameBut.update (((s.heap.update a (Obj.mapSeq fun _ => (#[] : Array Value))).push (seqObj "tuple" vs.toArray 0)).push (seqObj "list" #[] 0)) a (Obj.mapSeq fun _ => vs.toArray)
  obtain ⟨c2, hc2⟩ : ∃ c2, ((((s.heap.update a (Obj.mapSeq fun _ => (#[] : Array Value))).push (seqObj "tuple" vs.toArray 0)).push (seqObj "list" #[] 0)).update a (Obj.mapSeq fun _ => vs.toArray)).get? a = some (seqObj "list" vs.toArray c2) := ⟨_, get?_update_seq ho6 fun _ => vs.toArray⟩
  refine wpAny_bind (listUpdate_at ho6 rfl ?_ (Nat.zero_le _) (by rw [List.size_toArray, sizeLine_eq]; omega))
  show wpAny (model prog w) A (do
      if (e1 != e1) = true then rule "list.sort.modified"; raiseError "ValueError" "list modified during sort"
      ret .none) P E _
  simp only [bne_self_eq_false, Bool.false_eq_true, if_false]
  refine wpAny_pure (h _ c2 (kas_fr F3 s2 haL ha0) fun p hp => ?_)
  rcases List.mem_cons.mp hp with rfl | hp
  · exact ⟨hc2, haL, ha0⟩
  · exact kas_news N2 s2 hna p hp
theorem jss_sorted {l : Addr} {Q : Value → Shared → Prop} (F : Fr h₀ L s.heap m) (N : News h₀ L s.heap news) (hl : s.heap.IsList l vs.toArray) (h2 : vs.length < 2)
    (h : ∀ D c h', Fr h₀ L h' m → News h₀ L h' ((D, listOf vs.toArray c) :: news) → (∀ q ∈ news, q.1 < D) → Q (.ref D) { s with heap := h' }) :
    wpAny (model prog w) A (call (.builtin "sorted") [.ref l]) Q E s := by
  refine Calls.call_function_entry kind_sorted plain_sorted entry_sorted (args_sorted1 _) ?_
  unfold Builtin.«sorted»
  refine wpAny_bind (m := checkCount "sorted" 1 1 _) (wpAny_pure ?_)
  refine wpAny_bind (collect_list hl ?_ (by rw [sizeLine_eq]; omega))
  refine wpAny_bind (wpAny_newList ?_ (by rw [sizeLine_eq]; omega))
  have hsz : ((s.heap.push (seqObj "list" #[] 0)).update s.heap.objs.size (Obj.mapSeq (· ++ vs.toArray))).objs.size = s.heap.objs.size + 1 := by
    rw [Heap.size_update, size_push']
  have hoL : (((s.heap.push (seqObj "list" #[] 0)).update s.heap.objs.size (Obj.mapSeq (· ++ vs.toArray))).push (seqObj "list" vs.toArray 0)).get? (s.heap.objs.size + 1) = some (seqObj "list" vs.toArray 0) := by
    rw [← hsz]; exact Heap.get?_push_size _ rfl
  have keep : ∀ b o, s.heap.get? b = some o → (((s.heap.push (seqObj "list" #[] 0)).update s.heap.objs.size (Obj.mapSeq (· ++ vs.toArray))).push (seqObj "list" vs.toArray 0)).get? b = some o := fun b o q => by
    have hlt : b < s.heap.objs.size := Heap.lt_size q
    rw [Heap.get?_push_ne _ _ _ (by rw [hsz]; exact Nat.ne_of_lt (Nat.lt_succ_of_lt hlt)), Heap.get?_update_ne _ _ _ _ (Nat.ne_of_lt hlt), Heap.get?_push_ne _ _ _ (Nat.ne_of_lt hlt)]
    exact q
  have hL : L < s.heap.objs.size := F.ns.lt
  show wpAny _ _ _ _ _ { s with heap := ((s.heap.push (seqObj "list" #[] 0)).update s.heap.objs.size (Obj.mapSeq (· ++ vs.toArray))).push (seqObj "list" vs.toArray 0) }
  rw [hsz]
  refine wpAny_bind (wpAny_holding (wpAny_call_entry slot_list_sort ⟨_, hoL, rfl⟩ entry_list_sort ?body (args_list_sort _)))
  case body =>
    refine jss_list (s := { s with heap := ((s.heap.push (seqObj "list" #[] 0)).update s.heap.objs.size (Obj.mapSeq (· ++ vs.toArray))).push (seqObj "list" vs.toArray 0) })
      (F.kept keep) (N.grown keep) hoL (Nat.ne_of_gt (Nat.lt_succ_of_lt hL)) (Heap.get?_none_of_le (Nat.le_trans F.above (Nat.le_succ_of_le (Nat.le_of_lt hL))))
      (fun p hp => Nat.ne_of_lt (Nat.lt_succ_of_lt (Heap.lt_size (N p hp).1))) h2 fun h' c F' N' => ?_
    exact ⟨_, rfl, wpAny_pure ⟨_, rfl, h _ c h' F' N' fun q hq => Nat.lt_succ_of_lt (Heap.lt_size (N q hq).1)⟩⟩
theorem jss_rest {b : Bool} {f : Value} {e1 : Nat} {P : PySem.Fin → Shared → Prop} (hk : s.heap.get? kS = some (seqObj "list" #[] 0)) (h2 : vs.length < 2)
    (h : KatKeys prog w A h₀ L m kS f (fun ks e s' => KatFin h₀ L m kS a ks e e1 vs (fun s4 => P (.done (.ret .none)) s4) s') vs [] 0 s) :
    wpAny (model prog w) A (ksk_rest a f false vs.toArray e1 (.ref kS)) P E s := by
  unfold ksk_rest
  refine wpAny_bind (wpAny_rule ?_)
  first
    | rw [List.forIn_toArray]
    | (rw [← Array.forIn_toList]; simp only [List.toList_toArray])
    | rw [← Array.forIn_toList]
  refine wpAny_bind (wpAny_mono (kat_fold (by omega : vs.length < 64) (fun x ks e s' C hz hx => ?_) vs [] 0 s (by simp) hk h) (fun _ s' hd => ?_) fun _ _ x => x)
  · refine wpAny_bind (wpAny_attempt (wpAny_mono hx (fun k s'' hk => ?_) fun _ _ hF => hF.elim))
    obtain ⟨news', g, F', N', U, c⟩ := hk
    obtain ⟨pre, post, e0, hg, x1, x2⟩ := U.split
    rw [e0] at N'
    have nk := N' (kS, seqObj "list" (List.toArray ks) e) (List.mem_append_right _ (.head _))
    have s1 := Heap.SameBut.update s''.heap kS (Obj.mapSeq (·.push k))
    have ea : (List.toArray ks).push k = List.toArray (ks ++ [k]) := by simp
    obtain ⟨c2, hc2⟩ : ∃ c2, (s''.heap.update kS (Obj.mapSeq (·.push k))).get? kS = some (seqObj "list" (List.toArray (ks ++ [k])) c2) := ⟨_, by rw [← ea]; exact get?_update_seq nk.1 (·.push k)⟩
    try dsimp only
    refine wpAny_bind (listUpdate_at nk.1 rfl ?_ (by rw [List.size_toArray, sizeLine_eq]; omega) (Nat.le_trans (Nat.le_of_eq (Array.size_push ..)) (by rw [List.size_toArray, sizeLine_eq]; omega)))
    exact wpAny_pure ⟨rfl, k, c2, hc2, c _ c2 (kas_fr F' s1 nk.2.1 nk.2.2) (by rw [hg]; exact news_set N' x1 x2 s1 hc2)⟩
  · obtain ⟨ks, e, hk', hl, fin⟩ := hd
    try dsimp only
    refine wpAny_bind (listItems_at hk' rfl ?_)
    unfold ksk_end
    try dsimp only
    have hn2 : vs.toArray.size < 2 := by rw [List.size_toArray]; omega
    rw [if_neg (by simp), if_pos hn2, if_pos hn2]
    refine wpAny_bind (wpAny_pure ?_)
    rw [StateT.run_pure]
    refine wpAny_bind (wpAny_pure ?_)
    try dsimp only
    refine kat_tail (out := vs) ?_ (by omega) (by omega) rfl fin
    show ((List.toArray ks).zip vs.toArray).map (·.2) = vs.toArray
    apply Array.toList_inj.mp
    simp only [Array.toList_map, Array.toList_zip]
    exact List.map_snd_zip (Nat.le_of_eq hl.symm)
end

end
section
def ltS (a b : Str) : Bool := decide (a.cps.toList < b.cps.toList)
def ltP (a b : Str × Str) : Bool := if a.1 = b.1 then ltS a.2 b.2 else ltS a.1 b.1
theorem jlist_tri : ∀ (a b : List Nat), ¬ a < b → ¬ b < a → a = b
  | [], [], _, _ => rfl
  | [], _ :: _, h, _ => absurd (List.nil_lt_cons _ _) h
  | _ :: _, [], _, h => absurd (List.nil_lt_cons _ _) h
  | x :: a, y :: b, h1, h2 => by
    rw [List.cons_lt_cons_iff] at h1 h2
    have e : x = y := by
      rcases Nat.lt_trichotomy x y with h | h | h
      · exact absurd (.inl h) h1
      · exact h
      · exact absurd (.inl h) h2
    subst e
    rw [jlist_tri a b (fun h => h1 (.inr ⟨rfl, h⟩)) (fun h => h2 (.inr ⟨rfl, h⟩))]
theorem ltS_iff {a b : Str} : ltS a b = true ↔ a.cps.toList < b.cps.toList := by simp [ltS]
theorem ltS_false {a b : Str} : ltS a b = false ↔ ¬ a.cps.toList < b.cps.toList := by simp [ltS]
theorem ltS_tri {a b : Str} (h1 : ltS a b = false) (h2 : ltS b a = false) : a = b := by
  have := jlist_tri _ _ (ltS_false.mp h1) (ltS_false.mp h2)
  cases a; cases b
  simp_all
theorem LtOk.irrefl {α : Type} {lt : α → α → Bool} (o : LtOk lt) (a : α) : lt a a = false := by
  cases h : lt a a with
  | false => rfl
  | true => rw [← h]; exact o.asymm a a h
theorem ltS_ok : LtOk ltS where
  asymm := fun a b h => by
    rw [ltS_false]
    exact List.lt_asymm (ltS_iff.mp h)
  trans := fun a b c h1 h2 => by
    rw [ltS_false] at *
    have h1' : a.cps.toList ≤ b.cps.toList := List.not_lt.mp h1
    have h2' : b.cps.toList ≤ c.cps.toList := List.not_lt.mp h2
    exact List.not_lt.mpr (List.le_trans h1' h2')
theorem ltP_ok : LtOk ltP where
  asymm := fun a b h => by
    unfold ltP at *
    by_cases e : a.1 = b.1
    · rw [if_pos e] at h; rw [if_pos e.symm]; exact ltS_ok.asymm _ _ h
    · rw [if_neg e] at h; rw [if_neg (Ne.symm e)]; exact ltS_ok.asymm _ _ h
  trans := fun a b c h1 h2 => by
    unfold ltP at *
    by_cases e : a.1 = b.1
    · rw [if_pos e.symm] at h1
      by_cases e2 : b.1 = c.1
      · rw [if_pos e2.symm] at h2; rw [if_pos (e.trans e2).symm]; exact ltS_ok.trans _ _ _ h1 h2
      · rw [if_neg (Ne.symm e2)] at h2
        rw [if_neg (by rw [e]; exact Ne.symm e2), e]; exact h2
    · rw [if_neg (Ne.symm e)] at h1
      by_cases e2 : b.1 = c.1
      · rw [if_pos e2.symm] at h2
        rw [if_neg (by rw [← e2]; exact Ne.symm e), ← e2]; exact h1
      · rw [if_neg (Ne.symm e2)] at h2
        have h3 := ltS_ok.trans _ _ _ h1 h2
        by_cases e3 : c.1 = a.1
        · rw [e3] at h2
          exact absurd (ltS_tri h2 h1) e
        · rw [if_neg e3]; exact h3
theorem ltK_ok {α : Type} (f : α → Str) : LtOk (fun a b => ltS (f a) (f b)) := ⟨fun a b => ltS_ok.asymm _ _, fun a b c => ltS_ok.trans _ _ _⟩
section
variable {α : Type} {news : List (Addr × Obj)} {vs : List Value}
theorem datAll_pick {f : α → Dat} {rows : List α} (h : DatAll news vs (rows.map f)) : ∀ (idx : List Nat), (∀ i ∈ idx, i < rows.length) → DatAll news (idx.map fun i => vs.getD i .none) ((idx.filterMap fun i => rows[i]?).map f)
  | [], _ => .nil
  | i :: idx, hi => by
    have hlt := hi i List.mem_cons_self
    obtain ⟨v, hv, hd⟩ := h.get (k := i) (by rw [List.length_map]; exact hlt)
    rw [List.filterMap_cons, List.getElem?_eq_getElem hlt, List.map_cons, List.map_cons]
    refine .cons ?_ (datAll_pick h idx fun j hj => hi j (List.mem_cons_of_mem _ hj))
    rw [List.getD_eq_getElem?_getD, hv]
    simpa using hd
theorem datAll_at {f : α → Dat} {rows : List α} (h : DatAll news vs (rows.map f)) {i : Nat} (hi : i < rows.length) : DatIn news (vs.getD i .none) (f rows[i]) := by
  obtain ⟨v, hv, hd⟩ := h.get (k := i) (by rw [List.length_map]; exact hi)
  rw [List.getD_eq_getElem?_getD, hv]
  simpa using hd
theorem datAll_mem {ds : List Dat} (h : DatAll news vs ds) : ∀ v ∈ vs, ∃ d ∈ ds, DatIn news v d := by
  intro v hv
  obtain ⟨i, hi, e⟩ := List.mem_iff_getElem.mp hv
  obtain ⟨d, hd, hdi⟩ := datAll_get h (i := i) (v := v) (by rw [List.getElem?_eq_getElem hi, e])
  exact ⟨d, List.mem_of_getElem? hd, hdi⟩
end
theorem jsrt_len {α : Type} {lt : α → α → Bool} (o : LtOk lt) {l : List α} (h : l.length ≤ 5) : (jsrt lt l).length = l.length := (jsrt_perm o h).length_eq
theorem jperm_lt {α : Type} {lt : α → α → Bool} (o : LtOk lt) {l : List α} (h : l.length ≤ 5) : ∀ i ∈ jperm lt l, i < l.length := fun i hi => List.mem_range.mp ((jperm_perm o h).mem_iff.mp hi)
theorem jperm_two {α : Type} {lt : α → α → Bool} {l : List α} (h : 2 ≤ l.length) : jperm lt l = (jrun (ltAt lt l) (kas_sort l.length)).toList := by
  unfold jperm
  rw [if_neg (by omega)]
theorem jsrt_short {α : Type} {lt : α → α → Bool} {l : List α} (h : l.length < 2) : jsrt lt l = l := by
  unfold jsrt jperm
  rw [if_pos h]
  exact jrange_get l
section
variable {prog : Program} {w : World} {A : Around} {E : Value → Shared → Prop} {s : Shared} {h₀ : Heap} {L l : Addr} {m : Str → Option Value} {news : List (Addr × Obj)} {vs : List Value} {nl : Nat} {Q : Value → Shared → Prop}
theorem jkind_str {ss : List Str} (h : DatAll news vs (ss.map Dat.str)) (h2 : 2 ≤ vs.length) {Q : SortKind → Shared → Prop} (q : Q oneType' s) : wpAny (model prog w) A (keyKind' vs.toArray) Q E s := by
  refine kas_kind (T := .type "str") h2 (fun v hv => ?_) rfl rfl q
  obtain ⟨d, hd, hdi⟩ := datAll_mem h v hv
  obtain ⟨x, _, rfl⟩ := List.mem_map.mp hd
  cases hdi
  exact Looks.of_pure rfl
theorem jask_str {ss : List Str} (h : DatAll news vs (ss.map Dat.str)) {i j : Nat} (hi : i < ss.length) (hj : j < ss.length) {C : Bool → Shared → Prop} (q : C (ltAt ltS ss i j) s) : kas_ask prog w A oneType' vs i j C s := by
  unfold kas_ask
  have di := datAll_at h hi
  have dj := datAll_at h hj
  generalize vs.getD i .none = x at di
  generalize vs.getD j .none = y at dj
  cases di; cases dj
  refine kas_lt_str ?_
  unfold ltAt at q
  rw [List.getElem?_eq_getElem hi, List.getElem?_eq_getElem hj] at q
  exact q
theorem j_sortS {R0 : List (Addr × Obj)} {ss : List Str} (F : Fr h₀ L s.heap m) (N : News h₀ L s.heap news) (hm : (l, listOf vs.toArray nl) ∈ news) (hd : DatAll R0 vs (ss.map Dat.str)) (h5 : ss.length ≤ 5)
    (h₁ : ∀ D c h' vs', Fr h₀ L h' m → News h₀ L h' ((D, listOf (List.toArray vs') c) :: news) → (∀ q ∈ news, q.1 < D) → DatAll R0 vs' ((jsrt ltS ss).map Dat.str) → vs'.length = ss.length → Q (.ref D) { s with heap := h' }) :
    wpAny (model prog w) A (call (.builtin "sorted") [.ref l]) Q E s := by
  have h := fun D c h' vs' a1 a2 a3 a4 => h₁ D c h' vs' a1 a2 a3 a4 (by rw [a4.length, List.length_map, jsrt_len ltS_ok h5])
  have hl : vs.length = ss.length := by rw [hd.length, List.length_map]
  by_cases h2 : vs.length < 2
  · refine jss_sorted F N (jIsL N hm) h2 fun D c h' F' N' l1 => h D c h' vs F' N' l1 ?_
    rw [jsrt_short (by omega)]; exact hd
  · refine kat_sorted F N (jIsL N hm) (by omega) (by omega) fun D e1 h' F' N' l1 => ?_
    refine jkind_str hd (by omega) ?_
    rw [hl]
    refine jrun_wp (lt := ltAt ltS ss) (n := ss.length) (fun i j C hi hj q => jask_str hd hi hj q) _ [] [] (ltS_ok.at ss) (okTn (by omega) h5) (by simp) (by simp) ?_
    refine KasFin.intro F' N' (.head fun p hp => Nat.ne_of_lt (l1 p hp)) fun h'' c F'' N'' => h D c h'' _ F'' N'' l1 ?_
    have := datAll_pick hd (jperm ltS ss) (jperm_lt ltS_ok h5)
    rw [jperm_two (by omega)] at this
    rw [jsrt, jperm_two (by omega)]
    exact this
abbrev rowT (p : Str × Str) : Dat := .tuple [.str p.1, .str p.2]
theorem jask_tup {rows : List (Str × Str)} (N : News h₀ L s.heap news) (h : DatAll news vs (rows.map rowT)) {i j : Nat} (hi : i < rows.length) (hj : j < rows.length) {C : Bool → Shared → Prop} (q : C (ltAt ltP rows i j) s) : kas_ask prog w A (tuples' true) vs i j C s := by
  unfold kas_ask
  have di := datAll_at h hi
  have dj := datAll_at h hj
  generalize vs.getD i .none = x at di
  generalize vs.getD j .none = y at dj
  unfold ltAt at q
  rw [List.getElem?_eq_getElem hi, List.getElem?_eq_getElem hj] at q
  generalize rows[i] = p at di q
  generalize rows[j] = r at dj q
  cases di with
  | tuple hx ax =>
  cases dj with
  | tuple hy ay =>
  cases ax with
  | cons a1 ax => cases ax with
  | cons a2 ax => cases ax; cases a1; cases a2
                  cases ay with
  | cons b1 ay => cases ay with
  | cons b2 ay =>
    cases ay; cases b1; cases b2
    refine kat_lt (N _ hx).1 rfl (N _ hy).1 rfl ?_
    refine kat_cons (wpAny_eqBool_str ?_)
    have q' : C (ltP p r) s := q
    by_cases e : p.1 = r.1
    · rw [decide_eq_true e]
      refine kat_yes ?_
      refine kat_cons (wpAny_eqBool_str ?_)
      by_cases e2 : p.2 = r.2
      · rw [decide_eq_true e2]
        refine kat_yes (kat_nil ?_)
        have : ltP p r = false := by
          unfold ltP; rw [if_pos e, e2]
          exact ltS_ok.irrefl _
        rw [this] at q'
        exact q'
      · rw [decide_eq_false e2]
        refine kat_no ?_
        have : ltP p r = decide (p.2.cps.toList < r.2.cps.toList) := by unfold ltP; rw [if_pos e]; rfl
        rw [this] at q'
        exact kat_one _ _ (PyProof.Rows.lt_str q')
    · rw [decide_eq_false e]
      refine kat_no ?_
      have : ltP p r = decide (p.1.cps.toList < r.1.cps.toList) := by unfold ltP; rw [if_neg e]; rfl
      rw [this] at q'
      exact oneLt_str q'
theorem jkind_tup {rows : List (Str × Str)} (N : News h₀ L s.heap news) (h : DatAll news vs (rows.map rowT)) (h2 : 2 ≤ vs.length) {Q : SortKind → Shared → Prop} (q : Q (tuples' true) s) : wpAny (model prog w) A (keyKind' vs.toArray) Q E s := by
  obtain ⟨fs, hfs, hlen, hall⟩ : ∃ fs, KatTups s.heap vs fs ∧ fs.length = vs.length ∧ ∀ v ∈ fs, ∃ x t, v = .str x t := by
    clear h2 q
    induction rows generalizing vs with
    | nil => cases h; exact ⟨[], .nil, rfl, by simp⟩
    | cons p rows ih =>
      cases h with
      | cons h1 h =>
      obtain ⟨fs, a, b, c⟩ := ih h
      cases h1 with
      | tuple hx ax =>
      cases ax with
      | cons a1 ax =>
      cases a1
      refine ⟨_ :: fs, KatTups.cons (N _ hx).1 rfl rfl (by simp; rfl) a, by simp [b], fun v hv => ?_⟩
      rcases List.mem_cons.mp hv with rfl | hv
      · exact ⟨_, _, rfl⟩
      · exact c v hv
  refine kat_kind (T := .type "str") hfs (by omega) (fun v hv => ?_) rfl q
  obtain ⟨x, t, rfl⟩ := hall v hv
  exact Looks.of_pure rfl
theorem j_sortT {R0 : List (Addr × Obj)} {rows : List (Str × Str)} (F : Fr h₀ L s.heap m) (N : News h₀ L s.heap news) (hm : (l, listOf vs.toArray nl) ∈ news) (hd : DatAll R0 vs (rows.map rowT)) (hs0 : ∀ p ∈ R0, p ∈ news) (h5 : rows.length ≤ 5)
    (h₁ : ∀ D c h' vs', Fr h₀ L h' m → News h₀ L h' ((D, listOf (List.toArray vs') c) :: news) → (∀ q ∈ news, q.1 < D) → DatAll R0 vs' ((jsrt ltP rows).map rowT) → vs'.length = rows.length → Q (.ref D) { s with heap := h' }) :
    wpAny (model prog w) A (call (.builtin "sorted") [.ref l]) Q E s := by
  have h := fun D c h' vs' a1 a2 a3 a4 => h₁ D c h' vs' a1 a2 a3 a4 (by rw [a4.length, List.length_map, jsrt_len ltP_ok h5])
  have hl : vs.length = rows.length := by rw [hd.length, List.length_map]
  by_cases h2 : vs.length < 2
  · refine jss_sorted F N (jIsL N hm) h2 fun D c h' F' N' l1 => h D c h' vs F' N' l1 ?_
    rw [jsrt_short (by omega)]; exact hd
  · refine kat_sorted F N (jIsL N hm) (by omega) (by omega) fun D e1 h' F' N' l1 => ?_
    have hd' : DatAll ((D, seqObj "list" #[] e1) :: news) vs (rows.map rowT) := hd.mono fun p hp => List.mem_cons_of_mem _ (hs0 p hp)
    refine jkind_tup N' hd' (by omega) ?_
    rw [hl]
    refine jrun_wp (lt := ltAt ltP rows) (n := rows.length) (fun i j C hi hj q => jask_tup N' hd' hi hj q) _ [] [] (ltP_ok.at rows) (okTn (by omega) h5) (by simp) (by simp) ?_
    refine KasFin.intro F' N' (.head fun p hp => Nat.ne_of_lt (l1 p hp)) fun h'' c F'' N'' => h D c h'' _ F'' N'' l1 ?_
    have := datAll_pick hd (jperm ltP rows) (jperm_lt ltP_ok h5)
    rw [jperm_two (by omega)] at this
    rw [jsrt, jperm_two (by omega)]
    exact this
def sortZ (ns : List Int) : List Int := ns.mergeSort (fun a b => decide (a ≤ b))
theorem sortZ_perm (ns : List Int) : (sortZ ns).Perm ns := List.mergeSort_perm _ _
theorem sortZ_pw (ns : List Int) : (sortZ ns).Pairwise (· ≤ ·) := by
  have := List.pairwise_mergeSort (le := fun (a b : Int) => decide (a ≤ b)) (by simp; omega) (by simp; omega) ns
  simpa [sortZ] using this
theorem sortZ_uniq {a b : List Int} (h : a.Perm b) (hp : a.Pairwise (· ≤ ·)) : a = sortZ b := ksm_same (h.trans (sortZ_perm b).symm) hp (sortZ_pw b)
theorem j_sortI {R0 : List (Addr × Obj)} {ns : List Int} (F : Fr h₀ L s.heap m) (N : News h₀ L s.heap news) (hm : (l, listOf vs.toArray nl) ∈ news) (hd : DatAll R0 vs (ns.map Dat.int)) (h64 : ns.length < 64)
    (h₁ : ∀ D c h' vs', Fr h₀ L h' m → News h₀ L h' ((D, listOf (List.toArray vs') c) :: news) → (∀ q ∈ news, q.1 < D) → DatAll R0 vs' ((sortZ ns).map Dat.int) → vs'.length = ns.length → Q (.ref D) { s with heap := h' }) :
    wpAny (model prog w) A (call (.builtin "sorted") [.ref l]) Q E s := by
  have h := fun D c h' vs' a1 a2 a3 a4 => h₁ D c h' vs' a1 a2 a3 a4 (by rw [a4.length, List.length_map, (sortZ_perm ns).length_eq])
  refine sorted_N F N (jIsL N hm) (datAll_ints hd) (by rw [hd.length, List.length_map]; exact h64) fun h' vs' ns' e F' N' hi hp hs => ?_
  rw [sortZ_uniq hp hs] at hi
  exact h _ e h' vs' F' N' (fun q hq => Nat.lt_succ_of_lt (Heap.lt_size (N q hq).1)) (datAll_ofInts hi)
end

end
section
section
variable {prog : Program} {w : World} {A : Around} {E : Value → Shared → Prop} {s : Shared} {h₀ : Heap} {L : Addr} {m : Str → Option Value} {news : List (Addr × Obj)}
inductive JSrc (prog : Program) (w : World) (A : Around) (h₀ : Heap) (L I : Addr) (cls : String) (n : Nat) (P : Nat → Value → Prop) (keep : List (Addr × Obj)) (hp : Heap) : Prop
  | mk (fp St) (W : Walks prog w A I fp [I] n P St) (x1 : ∀ target i v (s : Shared) (Q : Unit → Shared → Prop) (E : Value → Shared → Prop), St i s.heap → Q () s → wpAny (model prog w) A (letOwnedTupleGo target (.ref I) v) Q E s)
    (x2 : ∀ i h, St i h → ∃ o : Obj, h.get? I = some o ∧ o.cls = .type cls) (x3 : L ∉ fp) (x4 : ∀ b ∈ fp, b = I ∨ ∃ o, (b, o) ∈ keep) (x5 : h₀.get? I = none) (x6 : St 0 hp) : JSrc prog w A h₀ L I cls n P keep hp
theorem jnot {h₀ h : Heap} {a : Addr} (hk : ∀ b o, h₀.get? b = some o → h.get? b = some o) (ha : h.objs.size ≤ a) : h₀.get? a = none := by
  cases e : h₀.get? a with
  | none => rfl
  | some o => exact absurd (Heap.lt_size (hk _ _ e)) (Nat.not_lt.mpr ha)
theorem jletGo_range {target : Expr} {I : Addr} {a n c : Int} {v : Value} {Q' : Unit → Shared → Prop} (hit : IsRangeIter s.heap I a n c) (h : Q' () s) :
    wpAny (model prog w) A (letOwnedTupleGo target (.ref I) v) Q' E s := by
  unfold letOwnedTupleGo
  cases target <;> first
    | exact wpAny_pure h
    | (cases v <;> first
        | exact wpAny_pure h
        | (refine wpAny_bind (wpAny_load hit ?_)
           exact wpAny_pure h))
theorem jiter_list {ax : Addr} {vs : List Value} {n : Nat} {Q : Value → Shared → Prop} (hh : A.handled = none) (F : Fr h₀ L s.heap m) (N : News h₀ L s.heap news) (hm : (ax, listOf vs.toArray n) ∈ news)
    (h : ∀ I h', JSrc prog w A h₀ L I "list_iterator" vs.length (fun i v => vs[i]? = some v) [(ax, listOf vs.toArray n)] h' → Fr h₀ L h' m → News h₀ L h' news → (∀ p ∈ news, p.1 < I) → Q (.ref I) { s with heap := h' }) :
    wpAny (model prog w) A (pyIter (.ref ax)) Q E s := by
  have hax := N _ hm
  have hl : s.heap.IsList ax vs.toArray := jIsL N hm
  have hlt : ax < s.heap.objs.size := Heap.lt_size hax.1
  refine wpAny_pyIter_list hl (h _ _ ?_ (F.push _) (fun p hp => ⟨Heap.get?_push_of_some _ (N p hp).1, (N p hp).2⟩) fun p hp => Heap.lt_size (N p hp).1)
  have W := Walks.list (prog := prog) (w := w) hh s.heap.objs.size ax (Nat.ne_of_lt hlt) vs.toArray
  have e : vs.toArray.size = vs.length := by simp
  rw [e] at W
  refine ⟨_, _, { sub := W.sub, frame := W.frame, done := W.done, self := W.self, item := fun i s Q E hi st hQ => W.item i s Q E hi st fun v h' tk hP => hQ v h' tk (by simpa using hP) }, fun target i v s Q E st q => letGo_listiter st.1 q, fun i h st => ?_, ?_, ?_, next_is_new F, ⟨⟨_, Heap.get?_push_size _ rfl, rfl, rfl⟩, hl.at fun o e => Heap.get?_push_of_some _ e⟩⟩
  · obtain ⟨o, h1, h2, _⟩ := st.1
    exact ⟨o, h1, h2⟩
  · intro hI
    rcases List.mem_cons.mp hI with e | hI
    · exact absurd F.ns.lt (e ▸ Nat.lt_irrefl _)
    · exact hax.2.1 (List.mem_singleton.mp hI).symm
  · intro b hb
    rcases List.mem_cons.mp hb with e | hb
    · exact .inl e
    · exact .inr ⟨_, by rw [List.mem_singleton.mp hb]; exact List.mem_singleton.mpr rfl⟩
theorem jiter_range {r : Addr} {a b : Int} {t u v : Tok} {n : Nat} {Q : Value → Shared → Prop} (hh : A.handled = none) (F : Fr h₀ L s.heap m) (N : News h₀ L s.heap news) (hr : IsRange s.heap r a b 1 t u v) (hsm : Builtin.Range.small a b 1 = true) (hn : Builtin.Range.rangeSize a b 1 = ((n : Nat) : Int))
    (h : ∀ I h', JSrc prog w A h₀ L I "range_iterator" n (fun i v => ∃ t, v = .int (a + (i : Int)) t) [] h' → Fr h₀ L h' m → News h₀ L h' news → (∀ p ∈ news, p.1 < I) → Q (.ref I) { s with heap := h' }) :
    wpAny (model prog w) A (pyIter (.ref r)) Q E s := by
  refine wpAny_pyIter_range hr hsm (h _ _ ?_ (F.push _) (fun p hp => ⟨Heap.get?_push_of_some _ (N p hp).1, (N p hp).2⟩) fun p hp => Heap.lt_size (N p hp).1)
  refine ⟨_, _, LCg.range_walks (I := s.heap.objs.size) hh a n, fun target i v s Q E st q => ?_, fun i h st => ⟨_, st, rfl⟩, ?_, ?_, next_is_new F, (by show IsRangeIter _ _ _ _ _; rw [hn]; simpa using Heap.get?_push_size _ rfl)⟩
  · exact jletGo_range st q
  · intro hI
    exact absurd F.ns.lt ((List.mem_singleton.mp hI) ▸ Nat.lt_irrefl _)
  · intro b hb
    exact .inl (List.mem_singleton.mp hb)
theorem jiter_keys {K : Type} [DecidableEq K] {knd : KeyKind prog w K} {kvs : List (K × Value)} {d : Addr} {od : Obj} {Q : Value → Shared → Prop} (hh : A.handled = none) (F : Fr h₀ L s.heap m) (N : News h₀ L s.heap news) (hm : (d, od) ∈ news) (hd : od.IsDictOf knd kvs) (lo : (d == sysModules) = false)
    (h : ∀ I h', JSrc prog w A h₀ L I "dict_keyiterator" kvs.length (fun i v => ∃ k x, kvs[i]? = some (k, x) ∧ knd.is k v = true) [(d, od)] h' → Fr h₀ L h' m → News h₀ L h' news → (∀ p ∈ news, p.1 < I) → Q (.ref I) { s with heap := h' }) :
    wpAny (model prog w) A (pyIter (.ref d)) Q E s := by
  have hax := N _ hm
  obtain ⟨ep, hat⟩ := (kda_dict N hm hd).dictAt
  have hne : d ≠ s.heap.objs.size := Nat.ne_of_lt hat.lt_size
  refine wpAny_pyIter_dict lo hat (h _ _ ?_ (F.push _) (fun p hp => ⟨Heap.get?_push_of_some _ (N p hp).1, (N p hp).2⟩) fun p hp => Heap.lt_size (N p hp).1)
  refine ⟨_, _, Walks.dictKeys (knd := knd) hh s.heap.objs.size d hne kvs ep, fun target i v s Q E st q => letGo_keyiter st.1 q, fun i h st => ?_, ?_, ?_, next_is_new F, ⟨⟨_, Heap.get?_push_size _ rfl, rfl, rfl⟩, hat.push _⟩⟩
  · obtain ⟨o, h1, h2, _⟩ := st.1
    exact ⟨o, h1, h2⟩
  · intro hI
    rcases List.mem_cons.mp hI with e | hI
    · exact absurd F.ns.lt (e ▸ Nat.lt_irrefl _)
    · exact hax.2.1 (List.mem_singleton.mp hI).symm
  · intro b hb
    rcases List.mem_cons.mp hb with e | hb
    · exact .inl e
    · exact .inr ⟨_, by rw [List.mem_singleton.mp hb]; exact List.mem_singleton.mpr rfl⟩
end

section
variable {prog : Program} {w : World} {A : Around} {E : Value → Shared → Prop} {s : Shared} {h₀ : Heap} {L : Addr} {m : Str → Option Value} {news : List (Addr × Obj)}
/-- what a comprehension's turn leaves -/
inductive JEnd (h₀ : Heap) (L : Addr) (m : Str → Option Value) (I : Addr) (o : Obj) (J : List (Addr × Obj) → Prop) (s₁ s₂ : Shared) : Prop
  | mk (h' tk nx)
    (x0 : s₂ = { s₁ with heap := h', toks := tk })
    (x1 : Fr h₀ L h' m)
    (x2 : News h₀ L h' ((I, o) :: nx))
    (x3 : ∀ p ∈ nx, p.1 ≠ I)
    (x4 : J nx) : JEnd h₀ L m I o J s₁ s₂
inductive JCInv (h₀ : Heap) (L : Addr) (m : Str → Option Value) (I : Addr) (n : Nat) (St : Nat → Heap → Prop) (J : Nat → List (Addr × Obj) → Prop) (s : Shared) (k : Nat) (s' : Shared) : Prop
  | mk (i h' tk nx) (x0 : s' = { s with heap := h', toks := tk }) (x1 : St i h') (x2 : Fr h₀ L h' m) (x3 : News h₀ L h' nx) (x4 : ∀ p ∈ nx, p.1 ≠ I) (x5 : J i nx) (x6 : i ≤ n) (x7 : k = n + 1 - i) : JCInv h₀ L m I n St J s k s'
theorem jcore {c : Code} {R : Result → Shared → Prop} {target : Expr} {I : Addr} {cls : String} {n : Nat} {P : Nat → Value → Prop} {keep : List (Addr × Obj)} {Turn : Value → (Shared → Prop) → Shared → Prop}
    (shape : ∀ Inv : Nat → Shared → Prop, (∀ k s, Inv k s → wpAny (model prog w) A (pyNext (.ref I)) (fun r s₁ => match r with
        | none => R (.ok .next) s₁
        | some v => wpAny (model prog w) A (letOwnedTupleGo target (.ref I) v) (fun _ s₂ => Turn v (fun s₃ => ∃ j, j < k ∧ Inv j s₃) s₂) (fun _ _ => False) s₁) (fun _ _ => False) s) → ∀ k s, Inv k s → codeAny (model prog w) A c R s)
    (mono : ∀ v k k' s, (∀ s, k s → k' s) → Turn v k s → Turn v k' s)
    (S : JSrc prog w A h₀ L I cls n P keep s.heap) (F : Fr h₀ L s.heap m) (N : News h₀ L s.heap news) (off : ∀ p ∈ news, p.1 ≠ I) (J : Nat → List (Addr × Obj) → Prop)
    (hkeep : ∀ i nx, J i nx → ∀ p ∈ keep, p ∈ nx) (h0 : J 0 news)
    (turn : ∀ i v h tk o nx, i < n → P i v → J i nx → o.cls = .type cls → Fr h₀ L h m → News h₀ L h ((I, o) :: nx) → (∀ p ∈ nx, p.1 ≠ I) → Turn v (JEnd h₀ L m I o (J (i + 1)) { s with heap := h, toks := tk }) { s with heap := h, toks := tk })
    (done : ∀ h tk nx, J n nx → Fr h₀ L h m → News h₀ L h nx → R (.ok .next) { s with heap := h, toks := tk }) :
    codeAny (model prog w) A c R s := by
  obtain ⟨fp, St, W, hgo, hobj, hLf, hfp, hI₀, hst⟩ := S
  have hIf : I ∈ fp := W.sub I (List.mem_singleton.mpr rfl)
  have hLI : L ≠ I := fun e => hLf (e ▸ hIf)
  refine shape (JCInv h₀ L m I n St J s) ?_ (n + 1) s
    ⟨0, s.heap, s.toks, news, rfl, hst, F, N, off, h0, Nat.zero_le _, rfl⟩
  rintro k s' ⟨i, h', tk, nx, rfl, hst', F', N', off', hJ, hi, rfl⟩
  by_cases hlt : i < n
  · refine W.item i _ _ _ hlt hst' fun v h₁ tk₁ hP hst₁ hk₁ => ?_
    have F₁ : Fr h₀ L h₁ m := LCg.fr_but F' hk₁ hLI hI₀
    have N₁ : News h₀ L h₁ nx := LCg.news_but N' hk₁ off'
    obtain ⟨o, ho, hoc⟩ := hobj _ _ hst₁
    have N₂ : News h₀ L h₁ ((I, o) :: nx) := fa1 ⟨ho, Ne.symm hLI, hI₀⟩ N₁
    refine hgo _ _ _ _ _ _ hst₁ (mono _ _ _ _ (fun s₃ h₃ => ?_) (turn i v h₁ tk₁ o nx hlt hP hJ hoc F₁ N₂ off'))
    obtain ⟨h₄, tk₄, nx₄, rfl, F₄, N₄, off₄, J₄⟩ := h₃
    refine ⟨n + 1 - (i + 1), by omega, i + 1, h₄, tk₄, nx₄, rfl, ?_, F₄, fun p hp => N₄ p (List.mem_cons_of_mem _ hp), off₄, J₄, hlt, rfl⟩
    refine W.frame _ _ _ hst₁ fun b hb o' e => ?_
    rcases hfp b hb with rfl | ⟨ob, hob⟩
    · have e1 := (N₄ _ (List.mem_cons_self)).1
      rw [ho] at e; cases e; exact e1
    · have e1 := (N₁ _ (hkeep _ _ hJ _ hob)).1
      have e2 := (N₄ _ (List.mem_cons_of_mem _ (hkeep _ _ J₄ _ hob))).1
      rw [e] at e1; cases e1; exact e2
  · obtain rfl : i = n := Nat.le_antisymm hi (Nat.not_lt.mp hlt)
    refine W.done _ _ _ hst' fun h₁ tk₁ hk₁ => ?_
    exact done h₁ tk₁ nx hJ (LCg.fr_but F' hk₁ hLI hI₀) (LCg.news_but N' hk₁ off')
end

end
section
section
variable {prog : Program} {w : World} {A : Around} {R : Result → Shared → Prop} {s : Shared}
/-- the tests of a clause -/
abbrev JTests (prog : Program) (w : World) (A : Around) (env : Env) (ifs : List Expr) (k : Bool → Shared → Prop) (s : Shared) : Prop :=
  wpAny (model prog w) A (forIn ifs true fun c r => if r = true then do let ok ← isTrue c env (eval c env); pure (ForInStep.yield ok) else pure (ForInStep.yield r)) k (fun _ _ => False) s
def JTurn (prog : Program) (w : World) (A : Around) (env : Env) (target : Expr) (ifs : List Expr) (Body : (Shared → Prop) → Shared → Prop) (v : Value) (k : Shared → Prop) (s : Shared) : Prop :=
  wpAny (model prog w) A (assign target env v) (fun _ s₂ => JTests prog w A env ifs (fun ok s₃ => if ok = true then Body k s₃ else k s₃) s₂) (fun _ _ => False) s
def JEmit (prog : Program) (w : World) (A : Around) (env : Env) (elt : Expr) (acc : Value) (k : Shared → Prop) (s : Shared) : Prop :=
  wpAny (model prog w) A (eval elt env) (fun x s₁ => wpAny (model prog w) A (call (.builtin "list.append") [acc, x]) (fun _ s₂ => k s₂) (fun _ _ => False) s₁) (fun _ _ => False) s
def JEmitD (prog : Program) (w : World) (A : Around) (env : Env) (ke ve : Expr) (d : Addr) (k : Shared → Prop) (s : Shared) : Prop :=
  wpAny (model prog w) A (eval ke env) (fun kv s₁ => wpAny (model prog w) A (eval ve env) (fun vv s₂ => wpAny (model prog w) A (dictSet d kv vv) (fun _ s₃ => k s₃) (fun _ _ => False) s₂) (fun _ _ => False) s₁) (fun _ _ => False) s
def JDeep (prog : Program) (w : World) (A : Around) (env : Env) (e : Expr) (d : Nat) (iter : Expr) (acc : Value) (k : Shared → Prop) (s : Shared) : Prop :=
  wpAny (model prog w) A (eval iter env) (fun x s₁ => wpAny (model prog w) A (pyIter x) (fun it s₂ => codeAny (model prog w) A (.compStart e d it acc env) (fun r s₃ => (∃ f, r = .ok f) ∧ k s₃) s₂) (fun _ _ => False) s₁) (fun _ _ => False) s
theorem JTurn.mono {env : Env} {target : Expr} {ifs : List Expr} {Body : (Shared → Prop) → Shared → Prop} (hb : ∀ k k' s, (∀ s, k s → k' s) → Body k s → Body k' s) (v : Value) (k k' : Shared → Prop) (s : Shared) (h : ∀ s, k s → k' s) (t : JTurn prog w A env target ifs Body v k s) : JTurn prog w A env target ifs Body v k' s := by
  refine wpAny_mono t (fun _ s₂ h₂ => wpAny_mono h₂ (fun ok s₃ h₃ => ?_) fun _ _ x => x) fun _ _ x => x
  cases ok with
  | true => simp only [if_true] at h₃ ⊢; exact hb _ _ _ h h₃
  | false => simp only [Bool.false_eq_true, if_false] at h₃ ⊢; exact h _ h₃
theorem JEmit.mono {env : Env} {elt : Expr} {acc : Value} (k k' : Shared → Prop) (s : Shared) (h : ∀ s, k s → k' s) (t : JEmit prog w A env elt acc k s) : JEmit prog w A env elt acc k' s :=
  wpAny_mono t (fun _ _ h₁ => wpAny_mono h₁ (fun _ _ h₂ => h _ h₂) fun _ _ x => x) fun _ _ x => x
theorem JEmitD.mono {env : Env} {ke ve : Expr} {d : Addr} (k k' : Shared → Prop) (s : Shared) (h : ∀ s, k s → k' s) (t : JEmitD prog w A env ke ve d k s) : JEmitD prog w A env ke ve d k' s :=
  wpAny_mono t (fun _ _ h₁ => wpAny_mono h₁ (fun _ _ h₂ => wpAny_mono h₂ (fun _ _ h₃ => h _ h₃) fun _ _ x => x) fun _ _ x => x) fun _ _ x => x
theorem JDeep.mono {env : Env} {e : Expr} {d : Nat} {iter : Expr} {acc : Value} (k k' : Shared → Prop) (s : Shared) (h : ∀ s, k s → k' s) (t : JDeep prog w A env e d iter acc k s) : JDeep prog w A env e d iter acc k' s :=
  wpAny_mono t (fun _ _ h₁ => wpAny_mono h₁ (fun _ _ h₂ => codeAny_mono h₂ fun _ _ h₃ => ⟨h₃.1, h _ h₃.2⟩) fun _ _ x => x) fun _ _ x => x
theorem jtests_nil {env : Env} {k : Bool → Shared → Prop} (h : k true s) : JTests prog w A env [] k s := wpAny_tests_nil h
theorem jtests_one {env : Env} {c : Expr} {k : Bool → Shared → Prop} (h : wpAny (model prog w) A (isTrue c env (eval c env)) k (fun _ _ => False) s) : JTests prog w A env [c] k s := wpAny_tests_one h

theorem jturn2 (elt t0 i0 t1 i1 : Expr) (ifs0 ifs1 : List Expr) (scope : Scope) (pos : Pos) (it acc : Value) (env : Env) :
    compTurn (.ListComp elt [⟨t0, i0, ifs0, 0⟩, ⟨t1, i1, ifs1, 0⟩] scope pos) 0 it acc env = (do
      standAt i0.pos
      match ← pyNext it with
      | none => pure (.done .next)
      | some v =>
        letOwnedTupleGo t0 it v
        assign t0 env v
        let mut ok := true
        for c in ifs0 do
          if ok then ok ← isTrue c env (eval c env)
        if ok then
          let x ← eval i1 env
          standAt i1.pos
          let x ← foldedSetIterable i1 env x
          let _ ← runOwn (.compStart (.ListComp elt [⟨t0, i0, ifs0, 0⟩, ⟨t1, i1, ifs1, 0⟩] scope pos) 1 (← holding [x] (pyIter x)) acc env) env
        again (.compLoop (.ListComp elt [⟨t0, i0, ifs0, 0⟩, ⟨t1, i1, ifs1, 0⟩] scope pos) 0 it acc env)) := by rfl
theorem jturn21 (elt t0 i0 t1 i1 : Expr) (ifs0 ifs1 : List Expr) (scope : Scope) (pos : Pos) (it acc : Value) (env : Env) :
    compTurn (.ListComp elt [⟨t0, i0, ifs0, 0⟩, ⟨t1, i1, ifs1, 0⟩] scope pos) 1 it acc env = (do
      standAt i1.pos
      match ← pyNext it with
      | none => pure (.done .next)
      | some v =>
        letOwnedTupleGo t1 it v
        assign t1 env v
        let mut ok := true
        for c in ifs1 do
          if ok then ok ← isTrue c env (eval c env)
        if ok then
          (do let _ ← call (.builtin "list.append") [acc, ← eval elt env])
        again (.compLoop (.ListComp elt [⟨t0, i0, ifs0, 0⟩, ⟨t1, i1, ifs1, 0⟩] scope pos) 1 it acc env)) := by rfl
theorem jturnD (ke ve t0 i0 : Expr) (ifs0 : List Expr) (scope : Scope) (pos : Pos) (it : Value) (d : Addr) (env : Env) :
    compTurn (.DictComp ke ve [⟨t0, i0, ifs0, 0⟩] scope pos) 0 it (.ref d) env = (do
      standAt i0.pos
      match ← pyNext it with
      | none => pure (.done .next)
      | some v =>
        letOwnedTupleGo t0 it v
        assign t0 env v
        let mut ok := true
        for c in ifs0 do
          if ok then ok ← isTrue c env (eval c env)
        if ok then
          (do let kv ← eval ke env
              let vv ← holding [kv] (eval ve env)
              standAt { ke.pos with endLine := ve.pos.endLine, endCol := ve.pos.endCol }
              holding [kv, vv] (dictSet d kv vv))
        again (.compLoop (.DictComp ke ve [⟨t0, i0, ifs0, 0⟩] scope pos) 0 it (.ref d) env)) := by rfl
end

end
section
section
variable {prog : Program} {w : World} {A : Around} {R : Result → Shared → Prop} {s : Shared}
theorem jloop_of {c : Code} {env : Env} {Turn0 : Sem PySem.Fin} (hden : (model prog w).den c = (Turn0).onRaise (fun x => do noteFrame x env; theTreesLotGoes x)) (hu : A.under c = A) (hq : c.quiet = true)
    (Inv : Nat → Shared → Prop) (turn : ∀ k s, Inv k s → wpAny (model prog w) A Turn0 (fun fin s' => match fin with | .done f => R (.ok f) s' | .again c' => c' = c ∧ ∃ j, j < k ∧ Inv j s') (fun _ _ => False) s) (k : Nat) (s : Shared) (h : Inv k s) : codeAny (model prog w) A c R s := by
  refine codeAny_loop hq Inv (fun k s hI => ?_) k h
  rw [hden, hu]
  exact wpAny_noted (wpAny_mono (turn k s hI) (fun _ _ x => x) fun _ _ x => x.elim)
theorem jshape1 {elt target iter : Expr} {ifs : List Expr} {scope : Scope} {pos : Pos} {it acc : Value} {env : Env} (Inv : Nat → Shared → Prop)
    (turn : ∀ k s, Inv k s → wpAny (model prog w) A (pyNext it) (fun r s₁ => match r with
      | none => R (.ok .next) s₁
      | some v => wpAny (model prog w) A (letOwnedTupleGo target it v) (fun _ s₂ => JTurn prog w A env target ifs (JEmit prog w A env elt acc) v (fun s₃ => ∃ j, j < k ∧ Inv j s₃) s₂) (fun _ _ => False) s₁) (fun _ _ => False) s)
    (k : Nat) (s : Shared) (h : Inv k s) : codeAny (model prog w) A (.compLoop (.ListComp elt [⟨target, iter, ifs, 0⟩] scope pos) 0 it acc env) R s := by
  refine jloop_of (Turn0 := compTurn (.ListComp elt [⟨target, iter, ifs, 0⟩] scope pos) 0 it acc env) (env := env) rfl rfl rfl Inv (fun k s hI => ?_) k s h
  rw [compTurn_list]
  refine wpAny_bind (wpAny_standAt (wpAny_bind (wpAny_mono (turn k s hI) (fun r s₁ h₁ => ?_) fun _ _ x => x)))
  cases r with
  | none => exact wpAny_pure h₁
  | some v =>
    refine wpAny_bind (wpAny_mono h₁ (fun _ s₂ h₂ => wpAny_bind (wpAny_mono h₂ (fun _ s₃ h₃ => wpAny_bind (wpAny_mono h₃ (fun ok s₄ h₄ => ?_) fun _ _ x => x)) fun _ _ x => x)) fun _ _ x => x)
    cases ok with
    | false => exact wpAny_pure ⟨rfl, h₄⟩
    | true =>
      simp only [if_true] at h₄
      exact wpAny_bind (wpAny_bind (wpAny_mono h₄ (fun x s₅ h₅ => wpAny_bind (wpAny_mono h₅ (fun _ s₆ h₆ => wpAny_pure (wpAny_pure ⟨rfl, h₆⟩)) fun _ _ x => x)) fun _ _ x => x))
theorem jshape21 {elt t0 i0 t1 i1 : Expr} {ifs0 ifs1 : List Expr} {scope : Scope} {pos : Pos} {it acc : Value} {env : Env} (Inv : Nat → Shared → Prop)
    (turn : ∀ k s, Inv k s → wpAny (model prog w) A (pyNext it) (fun r s₁ => match r with
      | none => R (.ok .next) s₁
      | some v => wpAny (model prog w) A (letOwnedTupleGo t1 it v) (fun _ s₂ => JTurn prog w A env t1 ifs1 (JEmit prog w A env elt acc) v (fun s₃ => ∃ j, j < k ∧ Inv j s₃) s₂) (fun _ _ => False) s₁) (fun _ _ => False) s)
    (k : Nat) (s : Shared) (h : Inv k s) : codeAny (model prog w) A (.compLoop (.ListComp elt [⟨t0, i0, ifs0, 0⟩, ⟨t1, i1, ifs1, 0⟩] scope pos) 1 it acc env) R s := by
  refine jloop_of (Turn0 := compTurn (.ListComp elt [⟨t0, i0, ifs0, 0⟩, ⟨t1, i1, ifs1, 0⟩] scope pos) 1 it acc env) (env := env) rfl rfl rfl Inv (fun k s hI => ?_) k s h
  rw [jturn21]
  refine wpAny_bind (wpAny_standAt (wpAny_bind (wpAny_mono (turn k s hI) (fun r s₁ h₁ => ?_) fun _ _ x => x)))
  cases r with
  | none => exact wpAny_pure h₁
  | some v =>
    refine wpAny_bind (wpAny_mono h₁ (fun _ s₂ h₂ => wpAny_bind (wpAny_mono h₂ (fun _ s₃ h₃ => wpAny_bind (wpAny_mono h₃ (fun ok s₄ h₄ => ?_) fun _ _ x => x)) fun _ _ x => x)) fun _ _ x => x)
    cases ok with
    | false => exact wpAny_pure ⟨rfl, h₄⟩
    | true =>
      simp only [if_true] at h₄
      exact wpAny_bind (wpAny_bind (wpAny_mono h₄ (fun x s₅ h₅ => wpAny_bind (wpAny_mono h₅ (fun _ s₆ h₆ => wpAny_pure (wpAny_pure ⟨rfl, h₆⟩)) fun _ _ x => x)) fun _ _ x => x))
theorem jshapeD {ke ve target iter : Expr} {ifs : List Expr} {scope : Scope} {pos : Pos} {it : Value} {d : Addr} {env : Env} (Inv : Nat → Shared → Prop)
    (turn : ∀ k s, Inv k s → wpAny (model prog w) A (pyNext it) (fun r s₁ => match r with
      | none => R (.ok .next) s₁
      | some v => wpAny (model prog w) A (letOwnedTupleGo target it v) (fun _ s₂ => JTurn prog w A env target ifs (JEmitD prog w A env ke ve d) v (fun s₃ => ∃ j, j < k ∧ Inv j s₃) s₂) (fun _ _ => False) s₁) (fun _ _ => False) s)
    (k : Nat) (s : Shared) (h : Inv k s) : codeAny (model prog w) A (.compLoop (.DictComp ke ve [⟨target, iter, ifs, 0⟩] scope pos) 0 it (.ref d) env) R s := by
  refine jloop_of (Turn0 := compTurn (.DictComp ke ve [⟨target, iter, ifs, 0⟩] scope pos) 0 it (.ref d) env) (env := env) rfl rfl rfl Inv (fun k s hI => ?_) k s h
  rw [jturnD]
  refine wpAny_bind (wpAny_standAt (wpAny_bind (wpAny_mono (turn k s hI) (fun r s₁ h₁ => ?_) fun _ _ x => x)))
  cases r with
  | none => exact wpAny_pure h₁
  | some v =>
    refine wpAny_bind (wpAny_mono h₁ (fun _ s₂ h₂ => wpAny_bind (wpAny_mono h₂ (fun _ s₃ h₃ => wpAny_bind (wpAny_mono h₃ (fun ok s₄ h₄ => ?_) fun _ _ x => x)) fun _ _ x => x)) fun _ _ x => x)
    cases ok with
    | false => exact wpAny_pure ⟨rfl, h₄⟩
    | true =>
      simp only [if_true] at h₄
      exact wpAny_bind (wpAny_bind (wpAny_mono h₄ (fun x s₅ h₅ => wpAny_bind (wpAny_holding (wpAny_mono h₅ (fun _ s₆ h₆ => wpAny_bind (wpAny_standAt (wpAny_holding (wpAny_mono h₆ (fun _ s₇ h₇ => wpAny_pure ⟨rfl, h₇⟩) fun _ _ x => x)))) fun _ _ x => x))) fun _ _ x => x))
theorem jshape2 {elt t0 i0 t1 i1 : Expr} {ifs0 ifs1 : List Expr} {scope : Scope} {pos : Pos} {it acc : Value} {env : Env} (hs : ∀ x, foldedSetIterable i1 env x = pure x) (Inv : Nat → Shared → Prop)
    (turn : ∀ k s, Inv k s → wpAny (model prog w) A (pyNext it) (fun r s₁ => match r with
      | none => R (.ok .next) s₁
      | some v => wpAny (model prog w) A (letOwnedTupleGo t0 it v) (fun _ s₂ => JTurn prog w A env t0 ifs0 (JDeep prog w A env (.ListComp elt [⟨t0, i0, ifs0, 0⟩, ⟨t1, i1, ifs1, 0⟩] scope pos) 1 i1 acc) v (fun s₃ => ∃ j, j < k ∧ Inv j s₃) s₂) (fun _ _ => False) s₁) (fun _ _ => False) s)
    (k : Nat) (s : Shared) (h : Inv k s) : codeAny (model prog w) A (.compLoop (.ListComp elt [⟨t0, i0, ifs0, 0⟩, ⟨t1, i1, ifs1, 0⟩] scope pos) 0 it acc env) R s := by
  refine jloop_of (Turn0 := compTurn (.ListComp elt [⟨t0, i0, ifs0, 0⟩, ⟨t1, i1, ifs1, 0⟩] scope pos) 0 it acc env) (env := env) rfl rfl rfl Inv (fun k s hI => ?_) k s h
  rw [jturn2]
  refine wpAny_bind (wpAny_standAt (wpAny_bind (wpAny_mono (turn k s hI) (fun r s₁ h₁ => ?_) fun _ _ x => x)))
  cases r with
  | none => exact wpAny_pure h₁
  | some v =>
    refine wpAny_bind (wpAny_mono h₁ (fun _ s₂ h₂ => wpAny_bind (wpAny_mono h₂ (fun _ s₃ h₃ => wpAny_bind (wpAny_mono h₃ (fun ok s₄ h₄ => ?_) fun _ _ x => x)) fun _ _ x => x)) fun _ _ x => x)
    cases ok with
    | false => exact wpAny_pure ⟨rfl, h₄⟩
    | true =>
      simp only [if_true] at h₄
      refine wpAny_bind (wpAny_mono h₄ (fun x s₅ h₅ => wpAny_bind (wpAny_standAt (wpAny_bind (wpAny_of_eq (hs x) (wpAny_bind (wpAny_holding (wpAny_mono h₅ (fun it' s₆ h₆ => wpAny_bind ?_) fun _ _ x => x))))))) fun _ _ x => x)
      refine wpAny_runOwn (codeAny_mono h₆ fun r s₇ h₇ => ?_)
      obtain ⟨⟨f, rfl⟩, h₇⟩ := h₇
      exact wpAny_pure ⟨rfl, h₇⟩
theorem jstart {e : Expr} {d : Nat} {g : Comprehension} {it acc : Value} {env : Env} (hg : (clausesOf e)[d]? = some g) (ha : g.is_async = 0)
    (hden : (model prog w).den (.compStart e d it acc env) = (compStart e d it acc env).onRaise (fun x => do noteFrame x env; standAt theWindowsPlace)) (hu : A.under (.compStart e d it acc env) = A) (hq : (Code.compLoop e d it acc env).quiet = true)
    (self : ∀ (Q : Value → Shared → Prop) (E : Value → Shared → Prop), Q it s → wpAny (model prog w) A (pyIter it) Q E s)
    (h : codeAny (model prog w) A (.compLoop e d it acc env) R s) : codeAny (model prog w) A (.compStart e d it acc env) R s := by
  refine codeAny_of_tree ?_
  rw [hden, hu]
  refine wpAny_notedAt ?_
  unfold compStart
  rw [hg]
  have hb : (g.is_async != 0) = false := by rw [ha]; rfl
  simp only [Option.elim, hb, Bool.false_eq_true, if_false]
  refine wpAny_bind (wpAny_askSetting (wpAny_ite ?_))
  split
  · exact wpAny_pure (And.intro hq h)
  · exact wpAny_bind (wpAny_rule (wpAny_bind (wpAny_standAt (wpAny_bind (self _ _ (wpAny_pure (And.intro hq h)))))))
end

end
section
section
variable {prog : Program} {w : World} {A : Around} {s : Shared} {h₀ : Heap} {L : Addr} {m : Str → Option Value} {news : List (Addr × Obj)} {env : Env}
theorem JSrc.at {I : Addr} {cls : String} {n : Nat} {P : Nat → Value → Prop} {keep : List (Addr × Obj)} {h h' : Heap} (S : JSrc prog w A h₀ L I cls n P keep h) (N : News h₀ L h news) (hk : ∀ p ∈ keep, p ∈ news) (up : ∀ b o, h.get? b = some o → h'.get? b = some o) : JSrc prog w A h₀ L I cls n P keep h' := by
  obtain ⟨fp, St, W, hgo, hobj, hLf, hfp, hI₀, hst⟩ := S
  exact ⟨fp, St, W, hgo, hobj, hLf, hfp, hI₀, W.frame _ _ _ hst fun b _ o e => up b o e⟩
theorem JSrc.self {I : Addr} {cls : String} {n : Nat} {P : Nat → Value → Prop} {keep : List (Addr × Obj)} (S : JSrc prog w A h₀ L I cls n P keep s.heap) (Q : Value → Shared → Prop) (E : Value → Shared → Prop) (q : Q (.ref I) s) : wpAny (model prog w) A (pyIter (.ref I)) Q E s := by
  obtain ⟨fp, St, W, hgo, hobj, hLf, hfp, hI₀, hst⟩ := S
  exact W.self 0 _ _ _ hst q
inductive JPost (h₀ : Heap) (L : Addr) (m : Str → Option Value) (mf : Addr → (Str → Option Value) → Str → Option Value) (C D : Addr) (Q : Value → Shared → Prop) (r : Result) (s' : Shared) : Prop
  | mk (x : ∃ f, r = .ok f) (oC m' nx) (x1 : Fr h₀ L s'.heap m) (x2 : News h₀ L s'.heap ((C, oC) :: nx)) (x3 : LCg.NsObj oC m') (x4 : ∀ p ∈ nx, p.1 ≠ C)
    (x5 : ∀ h' tk', Fr h₀ L h' (mf D m) → News h₀ L h' nx → Q (.ref D) { s' with heap := h', toks := tk' }) : JPost h₀ L m mf C D Q r s'
theorem jfin_none {C D : Addr} {Q : Value → Shared → Prop} {r : Result} {s' : Shared} (hr : JPost h₀ L m (fun _ m => m) C D Q r s') : compPost (model prog w) A (fun _ _ => False) none Q (.ref D) C r s' := by
  obtain ⟨⟨f, rfl⟩, oC', m', nx, F', N', hn', offC, q⟩ := hr
  have hC := N' _ (List.mem_cons_self)
  exact ⟨m', hn'.ns hC.1, fun h' hs' => q h' _ (F'.change hs' hC.2.1 hC.2.2) fun p hp => ⟨hs'.extBut _ _ (offC p hp) (N' p (List.mem_cons_of_mem _ hp)).1, (N' p (List.mem_cons_of_mem _ hp)).2⟩⟩
theorem jfin_use {y : Str} {py : Pos} {C D : Addr} {Q : Value → Shared → Prop} {Qf : Value → Shared → Prop} {r : Result} {s' : Shared} (hLe : env.locals = L) (hy : env.kindOf y = some .local) (hp : (env.scope.kind == .class || (env.scope.kind == .module && env.locals != env.globals)) = false)
    (hQ : ∀ s, Q (.ref D) s → Qf .none s) (hr : JPost h₀ L m (fun D m z => if z = y then some (.ref D) else m z) C D Q r s') : compPost (model prog w) A (fun _ _ => False) (some (assign (.Name y py) env)) Qf (.ref D) C r s' := by
  obtain ⟨⟨f, rfl⟩, oC', m', nx, F', N', hn', offC, q⟩ := hr
  subst hLe
  have hC := N' _ (List.mem_cons_self)
  show wpAny _ A (assign (.Name y py) env (.ref D)) _ _ _
  refine wpAny_assign_Name (wpAny_storeName_local hy F'.ns (fun h₂ hn₂ hs₂ => ?_) hp)
  have hL₀ : h₀.get? env.locals = none := Heap.get?_none_of_le F'.above
  have F₂ : Fr h₀ env.locals h₂ (fun z => if z = y then some (.ref D) else m z) := ⟨hn₂, fun b o e => hs₂.extBut b o (fun q => by rw [q, hL₀] at e; cases e) (F'.keep b o e), F'.above⟩
  refine ⟨m', (hn'.ns hC.1).sameBut hs₂ hC.2.1, fun h'' hs'' => hQ _ (q h'' _ (F₂.change hs'' hC.2.1 hC.2.2) fun p hp => ?_)⟩
  have z : h₂.get? p.1 = some p.2 := hs₂.extBut _ _ (N' p (List.mem_cons_of_mem _ hp)).2.1 (N' p (List.mem_cons_of_mem _ hp)).1
  exact ⟨hs''.extBut _ _ (offC p hp) z, (N' p (List.mem_cons_of_mem _ hp)).2⟩
theorem jenv {e : Expr} {scope : Scope} {cl : List (Str × Addr)} {I D : Addr} {cls : String} {n : Nat} {P : Nat → Value → Prop} {keep : List (Addr × Obj)} {Q Qc : Value → Shared → Prop} {use : Option (Value → Sem Unit)} {mf : Addr → (Str → Option Value) → Str → Option Value}
    (hfin : ∀ C r s', JPost h₀ L m mf C D Q r s' → compPost (model prog w) A (fun _ _ => False) use Qc (.ref D) C r s')
    (hcell : ∀ y ∈ scope.names, y.2 ≠ .cell) (hkind : scope.kind = .function) (F : Fr h₀ L s.heap m) (N : News h₀ L s.heap news) (S : JSrc prog w A h₀ L I cls n P keep s.heap) (hk : ∀ p ∈ keep, p ∈ news)
    (h : ∀ C oC h₁ tk, Fr h₀ L h₁ m → News h₀ L h₁ ((C, oC) :: news) → LCg.NsObj oC (fun _ => none) → (∀ p ∈ news, p.1 < C) → I < C → JSrc prog w A h₀ L I cls n P keep h₁ →
      codeAny (model prog w) A (.compStart e 0 (.ref I) (.ref D) (compEnvC scope cl C env)) (JPost h₀ L m mf C D Q) { s with heap := h₁, toks := tk }) :
    wpAny (model prog w) A (newFunctionEnv scope env.globals cl [] env.qual none .none (some env)) (fun cenv s₄ =>
      codeAny (model prog w) A (.compStart e 0 (.ref I) (.ref D) { cenv with scope := relabel scope env }) (compPost (model prog w) A (fun _ _ => False) use Qc (.ref D) cenv.locals) s₄) (fun _ _ => False) s := by
  refine wpAny_newFunctionEnv hcell (by intro y hy; simp at hy) (fun h₁ hns₁ hsb₁ => ?_) hkind
  have old : ∀ b o, s.heap.get? b = some o → h₁.get? b = some o := fun b o e => hsb₁.extBut b o (Nat.ne_of_lt (Heap.lt_size e)) (Heap.get?_push_of_some _ e)
  have hIl : I < s.heap.objs.size := by
    obtain ⟨fp, St, W, hgo, hobj, hLf, hfp, hI₀, hst⟩ := S
    obtain ⟨o, ho, _⟩ := hobj _ _ hst
    exact Heap.lt_size ho
  obtain ⟨oC, heC, hoC⟩ := LCg.ns_obj hns₁
  have hC₀ : h₀.get? s.heap.objs.size = none := jnot F.keep (Nat.le_refl _)
  refine codeAny_mono (h s.heap.objs.size oC h₁ _ (F.keeps old) (fun p hp => ?_) hoC (fun p hp => Heap.lt_size (N p hp).1) hIl (S.at N hk old)) fun r s' hr => ?_
  · rcases List.mem_cons.mp hp with rfl | hp
    · exact ⟨heC, Nat.ne_of_gt F.ns.lt, hC₀⟩
    · exact ⟨old _ _ (N p hp).1, (N p hp).2⟩
  · exact hfin _ _ _ hr
theorem jopen {e : Expr} {scope : Scope} {cl : List (Str × Addr)} {I : Addr} {cls : String} {n : Nat} {P : Nat → Value → Prop} {keep : List (Addr × Obj)} {Q : Value → Shared → Prop}
    (hcell : ∀ y ∈ scope.names, y.2 ≠ .cell) (hkind : scope.kind = .function) (F : Fr h₀ L s.heap m) (N : News h₀ L s.heap news) (S : JSrc prog w A h₀ L I cls n P keep s.heap) (hk : ∀ p ∈ keep, p ∈ news)
    (h : ∀ D C oC h₁ tk, Fr h₀ L h₁ m → News h₀ L h₁ ((C, oC) :: (D, listOf (List.toArray []) 0) :: news) → LCg.NsObj oC (fun _ => none) → (∀ p ∈ news, p.1 < D) → @LT.lt Nat instLTNat I D → @LT.lt Nat instLTNat D C → JSrc prog w A h₀ L I cls n P keep h₁ →
      codeAny (model prog w) A (.compStart e 0 (.ref I) (.ref D) (compEnvC scope cl C env)) (JPost h₀ L m (fun _ m => m) C D Q) { s with heap := h₁, toks := tk }) :
    wpAny (model prog w) A (newList []) (fun acc s₃ => wpAny (model prog w) A (newFunctionEnv scope env.globals cl [] env.qual none .none (some env)) (fun cenv s₄ =>
      codeAny (model prog w) A (.compStart e 0 (.ref I) acc { cenv with scope := relabel scope env }) (compPost (model prog w) A (fun _ _ => False) none Q acc cenv.locals) s₄) (fun _ _ => False) s₃) (fun _ _ => False) s := by
  have hIl : I < s.heap.objs.size := by
    obtain ⟨fp, St, W, hgo, hobj, hLf, hfp, hI₀, hst⟩ := S
    obtain ⟨o, ho, _⟩ := hobj _ _ hst
    exact Heap.lt_size ho
  have up : ∀ b o, s.heap.get? b = some o → (s.heap.push (listOf (List.toArray []) 0)).get? b = some o := fun b o e => Heap.get?_push_of_some _ e
  refine wpAny_newObj_type ?_
  refine jenv (fun C r s' hr => jfin_none hr) hcell hkind (F.push _) (N.push F _) (S.at N hk up) (fun p hp => List.mem_cons_of_mem _ (hk p hp)) fun C oC h₁ tk F₁ N₁ hoC lC hIC S₁ => ?_
  exact h _ C oC h₁ tk F₁ N₁ hoC (fun p hp => Heap.lt_size (N p hp).1) hIl (lC _ (List.mem_cons_self)) S₁
/-- a turn's end within a comprehension -/
inductive JE (h₀ : Heap) (L : Addr) (m : Str → Option Value) (I : Addr) (o : Obj) (C D : Addr) (oD : Obj) (Jn : List (Addr × Obj) → Prop) (s₁ s' : Shared) : Prop
  | mk (h' tk oC m₂ nx)
    (x0 : s' = { s₁ with heap := h', toks := tk })
    (x1 : Fr h₀ L h' m)
    (x2 : News h₀ L h' ((I, o) :: (C, oC) :: (D, oD) :: nx))
    (x3 : LCg.NsObj oC m₂)
    (x4 : ∀ p ∈ nx, p.1 ≠ I ∧ p.1 ≠ C ∧ p.1 ≠ D)
    (x5 : Jn nx) : JE h₀ L m I o C D oD Jn s₁ s'
theorem JE.intro {I : Addr} {o oC oD : Obj} {C D : Addr} {Jn : List (Addr × Obj) → Prop} {s₁ : Shared} {h' : Heap} {tk : Nat} {m₂ : Str → Option Value} {all : List (Addr × Obj)} (nx : List (Addr × Obj)) (F : Fr h₀ L h' m) (N : News h₀ L h' all) (hs : ∀ p ∈ (I, o) :: (C, oC) :: (D, oD) :: nx, p ∈ all) (hC : LCg.NsObj oC m₂)
    (off : ∀ p ∈ nx, p.1 ≠ I ∧ p.1 ≠ C ∧ p.1 ≠ D) (hJ : Jn nx) : JE h₀ L m I o C D oD Jn s₁ { s₁ with heap := h', toks := tk } := ⟨h', tk, oC, m₂, nx, rfl, F, jsub N hs, hC, off, hJ⟩
inductive JC1 (prog : Program) (w : World) (A : Around) (h₀ : Heap) (L : Addr) (env : Env) (elt t0 : Expr) (ifs : List Expr) (scope : Scope) (cl : List (Str × Addr)) (Q : Value → Shared → Prop) (it : Value) (s₂ : Shared) : Prop
  | mk (I cls n P keep m news) (J : Nat → List Value → List (Addr × Obj) → Prop)
    (x0 : it = .ref I)
    (x1 : JSrc prog w A h₀ L I cls n P keep s₂.heap)
    (x2 : Fr h₀ L s₂.heap m)
    (x3 : News h₀ L s₂.heap news)
    (x4 : ∀ p ∈ news, p.1 < I)
    (x5 : ∀ i ys nx, J i ys nx → ∀ p ∈ keep, p ∈ nx)
    (x6 : J 0 [] news)
    (x7 : ∀ i ys nx, J i ys nx → ys.length ≤ 1000)
    (x8 : ∀ i v ys nx h tk o D C oC m₂ nD, i < n → P i v → J i ys nx → o.cls = .type cls → LCg.NsObj oC m₂ → Fr h₀ L h m → News h₀ L h ((I, o) :: (C, oC) :: (D, listOf (List.toArray ys) nD) :: nx) → (∀ p ∈ nx, p.1 ≠ I) → (∀ p ∈ nx, p.1 ≠ C) → (∀ p ∈ nx, p.1 ≠ D) → @LT.lt Nat instLTNat I D → @LT.lt Nat instLTNat D C →       wpAny (model prog w) A (assign t0 (compEnvC scope cl C env) v) (fun _ s₃ => JTests prog w A (compEnvC scope cl C env) ifs (fun ok s₄ => if ok = true then           wpAny (model prog w) A (eval elt (compEnvC scope cl C env)) (fun y s₅ => JE h₀ L m I o C D (listOf (List.toArray ys) nD) (J (i + 1) (ys ++ [y])) { s₂ with heap := h, toks := tk } s₅) (fun _ _ => False) s₄         else JE h₀ L m I o C D (listOf (List.toArray ys) nD) (J (i + 1) ys) { s₂ with heap := h, toks := tk } s₄) s₃) (fun _ _ => False) { s₂ with heap := h, toks := tk })
    (x9 : ∀ D ys nx h tk nD, J n ys nx → Fr h₀ L h m → News h₀ L h ((D, listOf (List.toArray ys) nD) :: nx) → (∀ p ∈ nx, p.1 ≠ D) → (∀ p ∈ news, p.1 < D) → Q (.ref D) { s₂ with heap := h, toks := tk }) : JC1 prog w A h₀ L env elt t0 ifs scope cl Q it s₂
inductive JK (C D : Addr) (Jn : List Value → List (Addr × Obj) → Prop) (nx : List (Addr × Obj)) : Prop
  | mk (oC m₂ nD ys nx') (x0 : nx = (C, oC) :: (D, listOf (List.toArray ys) nD) :: nx') (x1 : LCg.NsObj oC m₂) (x2 : ∀ p ∈ nx', p.1 ≠ C ∧ p.1 ≠ D) (x3 : Jn ys nx') : JK C D Jn nx
theorem jcomp1 {elt t0 i0 : Expr} {ifs : List Expr} {scope : Scope} {cl : List (Str × Addr)} {pos : Pos} {Q : Value → Shared → Prop}
    (F₀ : Fr h₀ L s.heap m) (hclos : closureFor scope env = pure cl) (hcell : ∀ y ∈ scope.names, y.2 ≠ .cell) (hkind : scope.kind = .function) (hnames : ∀ y ∈ scope.names, y.2 = .local → scope.names.lookup y.1 = some .local)
    (h : wpAny (model prog w) A (eval i0 env) (fun xv s₁ => wpAny (model prog w) A (pyIter xv) (fun it s₂ => JC1 prog w A h₀ L env elt t0 ifs scope cl Q it s₂) (fun _ _ => False) s₁) (fun _ _ => False) s)
    (hs : ∀ x, foldedSetIterable i0 env x = pure x := by intro _; rfl) :
    wpAny (model prog w) A (eval (.ListComp elt [⟨t0, i0, ifs, 0⟩] scope pos) env) Q (fun _ _ => False) s := by
  rw [eval_ListComp]
  refine wpAny_comprehension_free (use := none) rfl hs hclos hkind hnames (wpAny_mono h (fun xv s₁ h₁ => wpAny_mono h₁ (fun it s₂ h₂ => ?_) fun _ _ e => e) fun _ _ e => e)
  obtain ⟨I, cls, n, P, keep, m, news, J, rfl, S, F, N, hI, hkeep, hJ0, hlen, turn, done⟩ := h₂
  refine jopen hcell hkind F N S (hkeep _ _ _ hJ0) fun D C oC h₁ tk F₁ N₁ hoC lD hID hDC S₁ => ?_
  refine jstart rfl rfl rfl rfl rfl (S₁.self) ?_
  refine jcore (Turn := fun v k s => JTurn prog w A (compEnvC scope cl C env) t0 ifs (JEmit prog w A (compEnvC scope cl C env) elt (.ref D)) v k s) (fun Inv turn k s hk => jshape1 Inv turn k s hk) (fun v k k' s => JTurn.mono (fun k k' s => JEmit.mono k k' s) v k k' s) S₁ F₁ N₁ ?_
    (fun i => JK C D (J i)) ?_ ?_ ?_ ?_
  · exact fa1 (Nat.ne_of_gt (Nat.lt_trans hID hDC)) (fa1 (Nat.ne_of_gt hID) fun p hp => Nat.ne_of_lt (hI p hp))
  · rintro i nx ⟨oC, m₂, nD, ys, nx', rfl, _, _, hJ⟩ p hp
    exact List.mem_cons_of_mem _ (List.mem_cons_of_mem _ (hkeep _ _ _ hJ p hp))
  · exact ⟨oC, _, 0, [], news, rfl, hoC, fun p hp => ⟨Nat.ne_of_lt (Nat.lt_trans (lD p hp) hDC), Nat.ne_of_lt (lD p hp)⟩, hJ0⟩
  · rintro i v h tk' o nx hi hP ⟨oC, m₂, nD, ys, nx', rfl, hC, off, hJ⟩ ho F' N' offI
    have hsz : ys.length ≤ 1000 := hlen _ _ _ hJ
    have T := turn i v ys nx' h tk' o D C oC m₂ nD hi hP hJ ho hC F' N' (fun p hp => offI p (List.mem_cons_of_mem _ (List.mem_cons_of_mem _ hp))) (fun p hp => (off p hp).1) (fun p hp => (off p hp).2) hID hDC
    refine wpAny_mono T (fun _ s₃ h₃ => wpAny_mono h₃ (fun ok s₄ h₄ => ?_) fun _ _ x => x) fun _ _ x => x
    cases ok with
    | false =>
      simp only [Bool.false_eq_true, if_false] at h₄ ⊢
      obtain ⟨h', tk'', oC', m₂', nx'', rfl, F₄, N₄, hC', off', hJ'⟩ := h₄
      refine ⟨h', tk'', _, rfl, F₄, N₄, fa1 (Nat.ne_of_gt (Nat.lt_trans hID hDC)) (fa1 (Nat.ne_of_gt hID) fun p hp => (off' p hp).1), oC', m₂', nD, ys, nx'', rfl, hC', fun p hp => (off' p hp).2, hJ'⟩
    | true =>
      simp only [if_true] at h₄ ⊢
      refine wpAny_mono h₄ (fun y s₅ h₅ => ?_) fun _ _ x => x
      obtain ⟨h', tk'', oC', m₂', nx'', rfl, F₄, N₄, hC', off', hJ'⟩ := h₅
      have zD := N₄ (D, listOf (List.toArray ys) nD) (List.mem_cons_of_mem _ (List.mem_cons_of_mem _ List.mem_cons_self))
      refine append_at (hsz := by rw [List.size_toArray, sizeLine_eq]; omega) zD.1 fun h₅ hs₅ hD₅ => ?_
      have go : ∀ q, q ∈ (I, o) :: (C, oC') :: (D, listOf (List.toArray ys) nD) :: nx'' → q.1 ≠ D → h₅.get? q.1 = some q.2 ∧ q.1 ≠ L ∧ h₀.get? q.1 = none := fun q hq hqD => ⟨hs₅.extBut _ _ hqD (N₄ q hq).1, (N₄ q hq).2⟩
      exact ⟨h₅, tk'', (C, oC') :: (D, listOf (List.toArray (ys ++ [y])) (nD + 1)) :: nx'', rfl, F₄.change hs₅ zD.2.1 zD.2.2, fa1 (go _ List.mem_cons_self (Nat.ne_of_lt hID)) (fa1 (go _ (List.mem_cons_of_mem _ List.mem_cons_self) (Nat.ne_of_gt hDC)) (fa1 ⟨by rw [hD₅, List.push_toArray], zD.2⟩ fun p hp => go _ (List.mem_cons_of_mem _ (List.mem_cons_of_mem _ (List.mem_cons_of_mem _ hp))) (off' p hp).2.2)), fa1 (Nat.ne_of_gt (Nat.lt_trans hID hDC)) (fa1 (Nat.ne_of_gt hID) fun p hp => (off' p hp).1), oC', m₂', nD + 1, ys ++ [y], nx'', rfl, hC', fun p hp => (off' p hp).2, hJ'⟩
  · rintro h tk' nx ⟨oC, m₂, nD, ys, nx', rfl, hC, off, hJ⟩ F' N'
    refine ⟨⟨_, rfl⟩, oC, m₂, (D, listOf (List.toArray ys) nD) :: nx', F', N', hC, fa1 (Nat.ne_of_lt hDC) fun p hp => (off p hp).1, fun h' tk'' F'' N'' => done D ys nx' h' tk'' nD hJ F'' N'' (fun p hp => (off p hp).2) lD⟩
end

end
section
section
variable {prog : Program} {w : World} {A : Around} {s : Shared} {h₀ : Heap} {L : Addr} {m : Str → Option Value} {news : List (Addr × Obj)} {env : Env}
inductive JCD (prog : Program) (w : World) (A : Around) (h₀ : Heap) (L : Addr) (mf : Addr → (Str → Option Value) → Str → Option Value) (env : Env) (ke ve t0 : Expr) (ifs : List Expr) (scope : Scope) (cl : List (Str × Addr)) (Q : Value → Shared → Prop) (it : Value) (s₂ : Shared) : Prop
  | mk (I cls n P keep m news) (J : Nat → List (Str × Value) → List (Addr × Obj) → Prop)
    (x0 : it = .ref I)
    (x1 : JSrc prog w A h₀ L I cls n P keep s₂.heap)
    (x2 : Fr h₀ L s₂.heap m)
    (x3 : News h₀ L s₂.heap news)
    (x4 : sysModules < h₀.objs.size)
    (x5 : ∀ p ∈ news, p.1 < I)
    (x6 : ∀ i ys nx, J i ys nx → ∀ p ∈ keep, p ∈ nx)
    (x7 : J 0 [] news)
    (x8 : ∀ i ys nx, J i ys nx → ys.length ≤ 1000)
    (x9 : ∀ i v ys nx h tk o D C oC m₂ oD, i < n → P i v → J i ys nx → o.cls = .type cls → LCg.NsObj oC m₂ → oD.IsDictOf (strKind prog w) ys → Fr h₀ L h m → News h₀ L h ((I, o) :: (C, oC) :: (D, oD) :: nx) → (∀ p ∈ nx, p.1 ≠ I) → (∀ p ∈ nx, p.1 ≠ C) → (∀ p ∈ nx, p.1 ≠ D) → @LT.lt Nat instLTNat I D → @LT.lt Nat instLTNat D C →       wpAny (model prog w) A (assign t0 (compEnvC scope cl C env) v) (fun _ s₃ => JTests prog w A (compEnvC scope cl C env) ifs (fun ok s₄ => if ok = true then           wpAny (model prog w) A (eval ke (compEnvC scope cl C env)) (fun kv s₅ => wpAny (model prog w) A (eval ve (compEnvC scope cl C env)) (fun vv s₆ => ∃ k, (strKind prog w).is k kv = true ∧ JE h₀ L m I o C D oD (J (i + 1) (stored ys k vv)) { s₂ with heap := h, toks := tk } s₆) (fun _ _ => False) s₅) (fun _ _ => False) s₄         else JE h₀ L m I o C D oD (J (i + 1) ys) { s₂ with heap := h, toks := tk } s₄) s₃) (fun _ _ => False) { s₂ with heap := h, toks := tk })
    (x10 : ∀ D ys nx h tk oD, J n ys nx → oD.IsDictOf (strKind prog w) ys → (D == sysModules) = false → Fr h₀ L h (mf D m) → News h₀ L h ((D, oD) :: nx) → (∀ p ∈ nx, p.1 ≠ D) → (∀ p ∈ news, p.1 < D) → Q (.ref D) { s₂ with heap := h, toks := tk }) : JCD prog w A h₀ L mf env ke ve t0 ifs scope cl Q it s₂
inductive JKD (prog : Program) (w : World) (C D : Addr) (Jn : List (Str × Value) → List (Addr × Obj) → Prop) (nx : List (Addr × Obj)) : Prop
  | mk (oC m₂ oD ys nx') (x0 : nx = (C, oC) :: (D, oD) :: nx') (x1 : LCg.NsObj oC m₂) (x : oD.IsDictOf (strKind prog w) ys) (x2 : ∀ p ∈ nx', p.1 ≠ C ∧ p.1 ≠ D) (x3 : Jn ys nx') : JKD prog w C D Jn nx
theorem jcoreD {ke ve t0 i0 : Expr} {ifs : List Expr} {scope : Scope} {cl : List (Str × Addr)} {pos : Pos} {Q Qc : Value → Shared → Prop} {it : Value} {use : Option (Value → Sem Unit)} {mf : Addr → (Str → Option Value) → Str → Option Value}
    (hfin : ∀ m C D r s', JPost h₀ L m mf C D Q r s' → compPost (model prog w) A (fun _ _ => False) use Qc (.ref D) C r s') (hcell : ∀ y ∈ scope.names, y.2 ≠ .cell) (hkind : scope.kind = .function) (h : JCD prog w A h₀ L mf env ke ve t0 ifs scope cl Q it s) :
    wpAny (model prog w) A (newDict) (fun acc s₃ => wpAny (model prog w) A (newFunctionEnv scope env.globals cl [] env.qual none .none (some env)) (fun cenv s₄ =>
      codeAny (model prog w) A (.compStart (.DictComp ke ve [⟨t0, i0, ifs, 0⟩] scope pos) 0 it acc { cenv with scope := relabel scope env }) (compPost (model prog w) A (fun _ _ => False) use Qc acc cenv.locals) s₄) (fun _ _ => False) s₃) (fun _ _ => False) s := by
  obtain ⟨I, cls, n, P, keep, m, news, J, rfl, S, F, N, hbig, hI, hkeep, hJ0, hlen, turn, done⟩ := h
  have hIl : I < s.heap.objs.size := by
    obtain ⟨fp, St, W, hgo, hobj, hLf, hfp, hI₀, hst⟩ := S
    obtain ⟨o, ho, _⟩ := hobj _ _ hst
    exact Heap.lt_size ho
  have lo : (s.heap.objs.size == sysModules) = false := F.notModules hbig
  obtain ⟨oD, hoD, hdD⟩ := Heap.dictOf_iff.mp (Heap.DictOf.new (knd := strKind prog w) s.heap)
  have up : ∀ b o, s.heap.get? b = some o → (s.heap.push { cls := .type "dict", data := .dict #[] }).get? b = some o := fun b o e => Heap.get?_push_of_some _ e
  refine wpAny_newObj_type ?_
  have lD : ∀ p ∈ news, p.1 < s.heap.objs.size := fun p hp => Heap.lt_size (N p hp).1
  have ND : News h₀ L (s.heap.push { cls := .type "dict", data := .dict #[] }) ((s.heap.objs.size, oD) :: news) := by
    have := N.push F { cls := .type "dict", data := .dict #[] }
    rw [Heap.get?_push_size _ rfl] at hoD
    cases hoD; exact this
  have F1 : Fr h₀ L (s.heap.push { cls := .type "dict", data := .dict #[] }) m := F.push _
  generalize s.heap.objs.size = D at lD ND hIl lo ⊢
  refine jenv (hfin m · D) hcell hkind F1 ND (S.at N (hkeep _ _ _ hJ0) up) (fun p hp => List.mem_cons_of_mem _ (hkeep _ _ _ hJ0 p hp)) fun C oC h₁ tk F₁ N₁ hoC lC hIC S₁ => ?_
  have hDC : D < C := lC _ List.mem_cons_self
  refine jstart rfl rfl rfl rfl rfl (S₁.self) ?_
  refine jcore (Turn := fun v k s => JTurn prog w A (compEnvC scope cl C env) t0 ifs (JEmitD prog w A (compEnvC scope cl C env) ke ve D) v k s) (fun Inv turn k s hk => jshapeD Inv turn k s hk) (fun v k k' s => JTurn.mono (fun k k' s => JEmitD.mono k k' s) v k k' s) S₁ F₁ N₁ ?_
    (fun i => JKD prog w C D (J i)) ?_ ?_ ?_ ?_
  · exact fa1 (Nat.ne_of_gt (Nat.lt_trans hIl hDC)) (fa1 (Nat.ne_of_gt hIl) fun p hp => Nat.ne_of_lt (hI p hp))
  · rintro i nx ⟨oC, m₂, oD, ys, nx', rfl, _, _, _, hJ⟩ p hp
    exact List.mem_cons_of_mem _ (List.mem_cons_of_mem _ (hkeep _ _ _ hJ p hp))
  · exact ⟨oC, _, oD, [], news, rfl, hoC, hdD, fun p hp => ⟨Nat.ne_of_lt (Nat.lt_trans (lD p hp) hDC), Nat.ne_of_lt (lD p hp)⟩, hJ0⟩
  · rintro i v h tk' o nx hi hP ⟨oC, m₂, oD, ys, nx', rfl, hC, hdD, off, hJ⟩ ho F' N' offI
    have hsz : ys.length ≤ 1000 := hlen _ _ _ hJ
    have T := turn i v ys nx' h tk' o D C oC m₂ oD hi hP hJ ho hC hdD F' N' (fun p hp => offI p (List.mem_cons_of_mem _ (List.mem_cons_of_mem _ hp))) (fun p hp => (off p hp).1) (fun p hp => (off p hp).2) hIl hDC
    refine wpAny_mono T (fun _ s₃ h₃ => wpAny_mono h₃ (fun ok s₄ h₄ => ?_) fun _ _ x => x) fun _ _ x => x
    cases ok with
    | false =>
      simp only [Bool.false_eq_true, if_false] at h₄ ⊢
      obtain ⟨h', tk'', oC', m₂', nx'', rfl, F₄, N₄, hC', off', hJ'⟩ := h₄
      refine ⟨h', tk'', _, rfl, F₄, N₄, fa1 (Nat.ne_of_gt (Nat.lt_trans hIl hDC)) (fa1 (Nat.ne_of_gt hIl) fun p hp => (off' p hp).1), oC', m₂', oD, ys, nx'', rfl, hC', hdD, fun p hp => (off' p hp).2, hJ'⟩
    | true =>
      simp only [if_true] at h₄ ⊢
      refine wpAny_mono h₄ (fun kv s₅ h₅ => wpAny_mono h₅ (fun vv s₆ h₆ => ?_) fun _ _ x => x) fun _ _ x => x
      obtain ⟨k, hkk, h', tk'', oC', m₂', nx'', rfl, F₄, N₄, hC', off', hJ'⟩ := h₆
      have zD := N₄ (D, oD) (List.mem_cons_of_mem _ (List.mem_cons_of_mem _ List.mem_cons_self))
      refine wpAny_dictSet_pairs (hsz := by rw [sizeLine_eq]; omega) hkk (Heap.dictOf_iff.mpr ⟨oD, zD.1, hdD⟩) fun h₅ hmm hs₅ => ?_
      obtain ⟨oD', hoD', hdD'⟩ := Heap.dictOf_iff.mp hmm
      have go : ∀ q, q ∈ (I, o) :: (C, oC') :: (D, oD) :: nx'' → q.1 ≠ D → h₅.get? q.1 = some q.2 ∧ q.1 ≠ L ∧ h₀.get? q.1 = none := fun q hq hqD => ⟨hs₅.extBut _ _ hqD (N₄ q hq).1, (N₄ q hq).2⟩
      exact ⟨h₅, _, (C, oC') :: (D, oD') :: nx'', rfl, F₄.change hs₅ zD.2.1 zD.2.2, fa1 (go _ List.mem_cons_self (Nat.ne_of_lt hIl)) (fa1 (go _ (List.mem_cons_of_mem _ List.mem_cons_self) (Nat.ne_of_gt hDC)) (fa1 ⟨hoD', zD.2⟩ fun p hp => go _ (List.mem_cons_of_mem _ (List.mem_cons_of_mem _ (List.mem_cons_of_mem _ hp))) (off' p hp).2.2)), fa1 (Nat.ne_of_gt (Nat.lt_trans hIl hDC)) (fa1 (Nat.ne_of_gt hIl) fun p hp => (off' p hp).1), oC', m₂', oD', stored ys k vv, nx'', rfl, hC', hdD', fun p hp => (off' p hp).2, hJ'⟩
  · rintro h tk' nx ⟨oC, m₂, oD, ys, nx', rfl, hC, hdD, off, hJ⟩ F' N'
    have post : JPost h₀ L m mf C D Q (Except.ok Flow.next) { s with heap := h, toks := tk' } := by
      refine ⟨⟨_, rfl⟩, oC, m₂, (D, oD) :: nx', F', N', hC, fa1 (Nat.ne_of_lt hDC) fun p hp => (off p hp).1, fun h' tk'' F'' N'' => done D ys nx' h' tk'' oD hJ hdD lo F'' N'' (fun p hp => (off p hp).2) lD⟩
    exact post
theorem jcompD {ke ve t0 i0 : Expr} {ifs : List Expr} {scope : Scope} {cl : List (Str × Addr)} {pos : Pos} {Q : Value → Shared → Prop}
    (F₀ : Fr h₀ L s.heap m) (hclos : closureFor scope env = pure cl) (hcell : ∀ y ∈ scope.names, y.2 ≠ .cell) (hkind : scope.kind = .function) (hnames : ∀ y ∈ scope.names, y.2 = .local → scope.names.lookup y.1 = some .local)
    (h : wpAny (model prog w) A (eval i0 env) (fun xv s₁ => wpAny (model prog w) A (pyIter xv) (fun it s₂ => JCD prog w A h₀ L (fun _ m => m) env ke ve t0 ifs scope cl Q it s₂) (fun _ _ => False) s₁) (fun _ _ => False) s)
    (hs : ∀ x, foldedSetIterable i0 env x = pure x := by intro _; rfl) :
    wpAny (model prog w) A (eval (.DictComp ke ve [⟨t0, i0, ifs, 0⟩] scope pos) env) Q (fun _ _ => False) s := by
  show wpAny _ _ (comprehension (.DictComp ke ve [⟨t0, i0, ifs, 0⟩] scope pos) scope env (firstIterPos [⟨t0, i0, ifs, 0⟩] pos) newDict (firstAsync [⟨t0, i0, ifs, 0⟩]) (firstIter [⟨t0, i0, ifs, 0⟩] env)) _ _ _
  exact wpAny_comprehension_free (use := none) rfl hs hclos hkind hnames (wpAny_mono h (fun xv s₁ h₁ => wpAny_mono h₁ (fun it s₂ h₂ => jcoreD (fun m C D r s' hr => jfin_none hr) hcell hkind h₂) fun _ _ e => e) fun _ _ e => e)
theorem jcompDA {ke ve t0 i0 : Expr} {y : Str} {py : Pos} {ifs : List Expr} {scope : Scope} {cl : List (Str × Addr)} {pos spos : Pos} {Q : Flow → Shared → Prop} (hLe : env.locals = L)
    (hsw : swapsWith (.DictComp ke ve [⟨t0, i0, ifs, 0⟩] scope pos) (some (.Name y py)) spos.line env = pure true)
    (F₀ : Fr h₀ L s.heap m) (hclos : closureFor scope env = pure cl) (hcell : ∀ y ∈ scope.names, y.2 ≠ .cell) (hkind : scope.kind = .function) (hnames : ∀ y ∈ scope.names, y.2 = .local → scope.names.lookup y.1 = some .local)
    (hy : env.kindOf y = some .local) (hp : (env.scope.kind == .class || (env.scope.kind == .module && env.locals != env.globals)) = false)
    (h : wpAny (model prog w) A (eval i0 env) (fun xv s₁ => wpAny (model prog w) A (pyIter xv) (fun it s₂ => JCD prog w A h₀ L (fun D m z => if z = y then some (.ref D) else m z) env ke ve t0 ifs scope cl (fun _ s' => Q .next s') it s₂) (fun _ _ => False) s₁) (fun _ _ => False) s)
    (hs : ∀ x, foldedSetIterable i0 env x = pure x := by intro _; rfl) :
    wpAny (model prog w) A (exec (.Assign [.Name y py] (.DictComp ke ve [⟨t0, i0, ifs, 0⟩] scope pos) spos) env) Q (fun _ _ => False) s := by
  rw [exec_Assign_Name_used _ _ _ _ hsw]
  refine wpAny_bind (wpAny_standAt (wpAny_bind ?_))
  show wpAny _ A (do let _ ← comprehension (.DictComp ke ve [⟨t0, i0, ifs, 0⟩] scope pos) scope env _ newDict false (eval i0 env) (some (assign (.Name y py) env))) _ _ s
  refine wpAny_bind (wpAny_mono (wpAny_comprehension_free (use := some (assign (.Name y py) env)) (Q := fun _ s' => Q .next s') rfl hs hclos hkind hnames
    (wpAny_mono h (fun xv s₁ h₁ => wpAny_mono h₁ (fun it s₂ h₂ => jcoreD (fun m C D r s' hr => jfin_use hLe hy hp (fun _ q => q) hr) hcell hkind h₂) fun _ _ e => e) fun _ _ e => e)) (fun _ s' hq => wpAny_pure (wpAny_pure hq)) fun _ _ e => e)
end

end
section
section
variable {prog : Program} {w : World} {A : Around} {s : Shared} {h₀ : Heap} {L : Addr} {m : Str → Option Value} {news : List (Addr × Obj)} {env : Env}
/-- an inner turn's end -/
inductive JE2 (h₀ : Heap) (L : Addr) (m : Str → Option Value) (Mq : (Str → Option Value) → Prop) (I' : Addr) (o' : Obj) (I : Addr) (o : Obj) (C D : Addr) (oD : Obj) (Jn : List (Addr × Obj) → Prop) (s₁ s' : Shared) : Prop
  | mk (h' tk oC m₂ nx)
    (x0 : s' = { s₁ with heap := h', toks := tk })
    (x1 : Fr h₀ L h' m)
    (x2 : News h₀ L h' ((I', o') :: (I, o) :: (C, oC) :: (D, oD) :: nx))
    (x3 : LCg.NsObj oC m₂)
    (x4 : Mq m₂)
    (x5 : ∀ p ∈ nx, p.1 ≠ I' ∧ p.1 ≠ I ∧ p.1 ≠ C ∧ p.1 ≠ D)
    (x6 : Jn nx) : JE2 h₀ L m Mq I' o' I o C D oD Jn s₁ s'
theorem JE2.intro {Mq : (Str → Option Value) → Prop} {I' I : Addr} {o' o oC oD : Obj} {C D : Addr} {Jn : List (Addr × Obj) → Prop} {s₁ : Shared} {h' : Heap} {tk : Nat} {m₂ : Str → Option Value} {all : List (Addr × Obj)} (nx : List (Addr × Obj)) (F : Fr h₀ L h' m) (N : News h₀ L h' all) (hs : ∀ p ∈ (I', o') :: (I, o) :: (C, oC) :: (D, oD) :: nx, p ∈ all) (hC : LCg.NsObj oC m₂) (hM : Mq m₂)
    (off : ∀ p ∈ nx, p.1 ≠ I' ∧ p.1 ≠ I ∧ p.1 ≠ C ∧ p.1 ≠ D) (hJ : Jn nx) : JE2 h₀ L m Mq I' o' I o C D oD Jn s₁ { s₁ with heap := h', toks := tk } := ⟨h', tk, oC, m₂, nx, rfl, F, jsub N hs, hC, hM, off, hJ⟩
inductive JIn (prog : Program) (w : World) (A : Around) (h₀ : Heap) (L : Addr) (m : Str → Option Value) (cenv : Env) (elt t1 : Expr) (ifs : List Expr) (I : Addr) (o : Obj) (C D : Addr) (Jn : List Value → List (Addr × Obj) → Prop) (it : Value) (s₂ : Shared) : Prop
  | mk (I' cls n P keep oC m₂ nD ys nx) (J : Nat → List Value → List (Addr × Obj) → Prop) (Mq : (Str → Option Value) → Prop)
    (x0 : it = .ref I')
    (x1 : JSrc prog w A h₀ L I' cls n P keep s₂.heap)
    (x2 : Fr h₀ L s₂.heap m)
    (x3 : News h₀ L s₂.heap ((I, o) :: (C, oC) :: (D, listOf (List.toArray ys) nD) :: nx))
    (x4 : LCg.NsObj oC m₂)
    (x5 : Mq m₂)
    (x6 : ∀ p ∈ (I, o) :: (C, oC) :: (D, listOf (List.toArray ys) nD) :: nx, p.1 < I')
    (x7 : ∀ p ∈ nx, p.1 ≠ I ∧ p.1 ≠ C ∧ p.1 ≠ D)
    (x8 : ∀ i ys nx, J i ys nx → ∀ p ∈ keep, p ∈ nx)
    (x9 : J 0 ys nx)
    (x10 : ∀ i ys nx, J i ys nx → ys.length ≤ 1000)
    (x11 : ∀ i v ys nx h tk o' oC m₂ nD, i < n → P i v → J i ys nx → o'.cls = .type cls → LCg.NsObj oC m₂ → Mq m₂ → Fr h₀ L h m → News h₀ L h ((I', o') :: (I, o) :: (C, oC) :: (D, listOf (List.toArray ys) nD) :: nx) → (∀ p ∈ nx, p.1 ≠ I') → (∀ p ∈ nx, p.1 ≠ I) → (∀ p ∈ nx, p.1 ≠ C) → (∀ p ∈ nx, p.1 ≠ D) → @LT.lt Nat instLTNat I I' → @LT.lt Nat instLTNat C I' → @LT.lt Nat instLTNat D I' →       wpAny (model prog w) A (assign t1 cenv v) (fun _ s₃ => JTests prog w A cenv ifs (fun ok s₄ => if ok = true then           wpAny (model prog w) A (eval elt cenv) (fun y s₅ => JE2 h₀ L m Mq I' o' I o C D (listOf (List.toArray ys) nD) (J (i + 1) (ys ++ [y])) { s₂ with heap := h, toks := tk } s₅) (fun _ _ => False) s₄         else JE2 h₀ L m Mq I' o' I o C D (listOf (List.toArray ys) nD) (J (i + 1) ys) { s₂ with heap := h, toks := tk } s₄) s₃) (fun _ _ => False) { s₂ with heap := h, toks := tk })
    (x12 : ∀ ys nx, J n ys nx → Jn ys nx) : JIn prog w A h₀ L m cenv elt t1 ifs I o C D Jn it s₂
inductive JC2 (prog : Program) (w : World) (A : Around) (h₀ : Heap) (L : Addr) (env : Env) (elt t0 t1 i1 : Expr) (ifs0 ifs1 : List Expr) (scope : Scope) (cl : List (Str × Addr)) (Q : Value → Shared → Prop) (it : Value) (s₂ : Shared) : Prop
  | mk (I cls n P keep m news) (J : Nat → List Value → List (Addr × Obj) → Prop)
    (x0 : it = .ref I)
    (x1 : JSrc prog w A h₀ L I cls n P keep s₂.heap)
    (x2 : Fr h₀ L s₂.heap m)
    (x3 : News h₀ L s₂.heap news)
    (x4 : ∀ p ∈ news, p.1 < I)
    (x5 : ∀ i ys nx, J i ys nx → ∀ p ∈ keep, p ∈ nx)
    (x6 : J 0 [] news)
    (x7 : ∀ i ys nx, J i ys nx → ys.length ≤ 1000)
    (x8 : ∀ i v ys nx h tk o D C oC m₂ nD, i < n → P i v → J i ys nx → o.cls = .type cls → LCg.NsObj oC m₂ → Fr h₀ L h m → News h₀ L h ((I, o) :: (C, oC) :: (D, listOf (List.toArray ys) nD) :: nx) → (∀ p ∈ nx, p.1 ≠ I) → (∀ p ∈ nx, p.1 ≠ C) → (∀ p ∈ nx, p.1 ≠ D) → @LT.lt Nat instLTNat I D → @LT.lt Nat instLTNat D C →       wpAny (model prog w) A (assign t0 (compEnvC scope cl C env) v) (fun _ s₃ => JTests prog w A (compEnvC scope cl C env) ifs0 (fun ok s₄ => if ok = true then           wpAny (model prog w) A (eval i1 (compEnvC scope cl C env)) (fun xv s₅ => wpAny (model prog w) A (pyIter xv) (fun it' s₆ => (∃ h tk, s₆ = { s₂ with heap := h, toks := tk }) ∧ JIn prog w A h₀ L m (compEnvC scope cl C env) elt t1 ifs1 I o C D (J (i + 1)) it' s₆) (fun _ _ => False) s₅) (fun _ _ => False) s₄         else JE h₀ L m I o C D (listOf (List.toArray ys) nD) (J (i + 1) ys) { s₂ with heap := h, toks := tk } s₄) s₃) (fun _ _ => False) { s₂ with heap := h, toks := tk })
    (x9 : ∀ D ys nx h tk nD, J n ys nx → Fr h₀ L h m → News h₀ L h ((D, listOf (List.toArray ys) nD) :: nx) → (∀ p ∈ nx, p.1 ≠ D) → (∀ p ∈ news, p.1 < D) → Q (.ref D) { s₂ with heap := h, toks := tk }) : JC2 prog w A h₀ L env elt t0 t1 i1 ifs0 ifs1 scope cl Q it s₂
inductive JK2 (Mq : (Str → Option Value) → Prop) (I : Addr) (o : Obj) (C D : Addr) (Jn : List Value → List (Addr × Obj) → Prop) (nx : List (Addr × Obj)) : Prop
  | mk (oC m₂ nD ys nx') (x0 : nx = (I, o) :: (C, oC) :: (D, listOf (List.toArray ys) nD) :: nx') (x1 : LCg.NsObj oC m₂) (x : Mq m₂) (x2 : ∀ p ∈ nx', p.1 ≠ I ∧ p.1 ≠ C ∧ p.1 ≠ D) (x3 : Jn ys nx') : JK2 Mq I o C D Jn nx
theorem jin {elt t0 i0 t1 i1 : Expr} {ifs0 ifs1 : List Expr} {scope : Scope} {pos : Pos} {cenv : Env} {I : Addr} {o : Obj} {C D : Addr} {Jn : List Value → List (Addr × Obj) → Prop} {it : Value} {s₀ : Shared} (hID : I < D) (hDC : D < C)
    (hs : ∃ h tk, s = { s₀ with heap := h, toks := tk }) (h : JIn prog w A h₀ L m cenv elt t1 ifs1 I o C D Jn it s) :
    codeAny (model prog w) A (.compStart (.ListComp elt [⟨t0, i0, ifs0, 0⟩, ⟨t1, i1, ifs1, 0⟩] scope pos) 1 it (.ref D) cenv) (fun r s' => (∃ f, r = .ok f) ∧ JEnd h₀ L m I o (JK C D Jn) s₀ s') s := by
  obtain ⟨I', cls, n, P, keep, oC, m₂, nD, ys, nx, J, Mq, rfl, S, F, N, hC, hM, hI', off, hkeep, hJ0, hlen, turn, done⟩ := h
  obtain ⟨hh, tt, rfl⟩ := hs
  have hII : I < I' := hI' _ List.mem_cons_self
  have hCI : C < I' := hI' _ (List.mem_cons_of_mem _ List.mem_cons_self)
  have hDI : D < I' := hI' _ (List.mem_cons_of_mem _ (List.mem_cons_of_mem _ List.mem_cons_self))
  refine jstart rfl rfl rfl rfl rfl (S.self) ?_
  refine jcore (Turn := fun v k s => JTurn prog w A cenv t1 ifs1 (JEmit prog w A cenv elt (.ref D)) v k s) (fun Inv turn k s hk => jshape21 Inv turn k s hk) (fun v k k' s => JTurn.mono (fun k k' s => JEmit.mono k k' s) v k k' s) S F N ?_
    (fun i => JK2 Mq I o C D (J i)) ?_ ?_ ?_ ?_
  · exact fun p hp => Nat.ne_of_lt (hI' p hp)
  · rintro i nx ⟨oC, m₂, nD, ys, nx', rfl, _, _, _, hJ⟩ p hp
    exact List.mem_cons_of_mem _ (List.mem_cons_of_mem _ (List.mem_cons_of_mem _ (hkeep _ _ _ hJ p hp)))
  · exact ⟨oC, m₂, nD, ys, nx, rfl, hC, hM, off, hJ0⟩
  · rintro i v h tk' o' nx hi hP ⟨oC, m₂, nD, ys, nx', rfl, hC, hM, off, hJ⟩ ho F' N' offI
    have hsz : ys.length ≤ 1000 := hlen _ _ _ hJ
    have T := turn i v ys nx' h tk' o' oC m₂ nD hi hP hJ ho hC hM F' N' (fun p hp => offI p (List.mem_cons_of_mem _ (List.mem_cons_of_mem _ (List.mem_cons_of_mem _ hp)))) (fun p hp => (off p hp).1) (fun p hp => (off p hp).2.1) (fun p hp => (off p hp).2.2) hII hCI hDI
    refine wpAny_mono T (fun _ s₃ h₃ => wpAny_mono h₃ (fun ok s₄ h₄ => ?_) fun _ _ x => x) fun _ _ x => x
    cases ok with
    | false =>
      simp only [Bool.false_eq_true, if_false] at h₄ ⊢
      obtain ⟨h', tk'', oC', m₂', nx'', rfl, F₄, N₄, hC', hM', off', hJ'⟩ := h₄
      refine ⟨h', tk'', _, rfl, F₄, N₄, fa1 (Nat.ne_of_lt hII) (fa1 (Nat.ne_of_lt hCI) (fa1 (Nat.ne_of_lt hDI) fun p hp => (off' p hp).1)), oC', m₂', nD, ys, nx'', rfl, hC', hM', fun p hp => (off' p hp).2, hJ'⟩
    | true =>
      simp only [if_true] at h₄ ⊢
      refine wpAny_mono h₄ (fun y s₅ h₅ => ?_) fun _ _ x => x
      obtain ⟨h', tk'', oC', m₂', nx'', rfl, F₄, N₄, hC', hM', off', hJ'⟩ := h₅
      have zD := N₄ (D, listOf (List.toArray ys) nD) (List.mem_cons_of_mem _ (List.mem_cons_of_mem _ (List.mem_cons_of_mem _ List.mem_cons_self)))
      refine append_at (hsz := by rw [List.size_toArray, sizeLine_eq]; omega) zD.1 fun h₅ hs₅ hD₅ => ?_
      have go : ∀ q, q ∈ (I', o') :: (I, o) :: (C, oC') :: (D, listOf (List.toArray ys) nD) :: nx'' → q.1 ≠ D → h₅.get? q.1 = some q.2 ∧ q.1 ≠ L ∧ h₀.get? q.1 = none := fun q hq hqD => ⟨hs₅.extBut _ _ hqD (N₄ q hq).1, (N₄ q hq).2⟩
      exact ⟨h₅, tk'', (I, o) :: (C, oC') :: (D, listOf (List.toArray (ys ++ [y])) (nD + 1)) :: nx'', rfl, F₄.change hs₅ zD.2.1 zD.2.2, fa1 (go _ List.mem_cons_self (Nat.ne_of_gt hDI)) (fa1 (go _ (List.mem_cons_of_mem _ List.mem_cons_self) (Nat.ne_of_lt hID)) (fa1 (go _ (List.mem_cons_of_mem _ (List.mem_cons_of_mem _ List.mem_cons_self)) (Nat.ne_of_gt hDC)) (fa1 ⟨by rw [hD₅, List.push_toArray], zD.2⟩ fun p hp => go _ (List.mem_cons_of_mem _ (List.mem_cons_of_mem _ (List.mem_cons_of_mem _ (List.mem_cons_of_mem _ hp)))) (off' p hp).2.2.2))), fa1 (Nat.ne_of_lt hII) (fa1 (Nat.ne_of_lt hCI) (fa1 (Nat.ne_of_lt hDI) fun p hp => (off' p hp).1)), oC', m₂', nD + 1, ys ++ [y], nx'', rfl, hC', hM', fun p hp => (off' p hp).2, hJ'⟩
  · rintro h tk' nx ⟨oC, m₂, nD, ys, nx', rfl, hC, hM, off, hJ⟩ F' N'
    refine ⟨⟨_, rfl⟩, h, tk', _, rfl, F', N', fa1 (Nat.ne_of_gt (Nat.lt_trans hID hDC)) (fa1 (Nat.ne_of_gt hID) fun p hp => (off p hp).1), oC, m₂, nD, ys, nx', rfl, hC, fun p hp => (off p hp).2, done _ _ hJ⟩
theorem jcomp2 {elt t0 i0 t1 i1 : Expr} {ifs0 ifs1 : List Expr} {scope : Scope} {cl : List (Str × Addr)} {pos : Pos} {Q : Value → Shared → Prop}
    (F₀ : Fr h₀ L s.heap m) (hclos : closureFor scope env = pure cl) (hcell : ∀ y ∈ scope.names, y.2 ≠ .cell) (hkind : scope.kind = .function) (hnames : ∀ y ∈ scope.names, y.2 = .local → scope.names.lookup y.1 = some .local)
    (h : wpAny (model prog w) A (eval i0 env) (fun xv s₁ => wpAny (model prog w) A (pyIter xv) (fun it s₂ => JC2 prog w A h₀ L env elt t0 t1 i1 ifs0 ifs1 scope cl Q it s₂) (fun _ _ => False) s₁) (fun _ _ => False) s)
    (hs : ∀ x, foldedSetIterable i0 env x = pure x := by intro _; rfl) (hs1 : ∀ C x, foldedSetIterable i1 (compEnvC scope cl C env) x = pure x := by intro _ _; rfl) :
    wpAny (model prog w) A (eval (.ListComp elt [⟨t0, i0, ifs0, 0⟩, ⟨t1, i1, ifs1, 0⟩] scope pos) env) Q (fun _ _ => False) s := by
  rw [eval_ListComp]
  refine wpAny_comprehension_free (use := none) rfl hs hclos hkind hnames (wpAny_mono h (fun xv s₁ h₁ => wpAny_mono h₁ (fun it s₂ h₂ => ?_) fun _ _ e => e) fun _ _ e => e)
  obtain ⟨I, cls, n, P, keep, m, news, J, rfl, S, F, N, hI, hkeep, hJ0, hlen, turn, done⟩ := h₂
  refine jopen hcell hkind F N S (hkeep _ _ _ hJ0) fun D C oC h₁ tk F₁ N₁ hoC lD hID hDC S₁ => ?_
  refine jstart rfl rfl rfl rfl rfl (S₁.self) ?_
  refine jcore (Turn := fun v k s => JTurn prog w A (compEnvC scope cl C env) t0 ifs0 (JDeep prog w A (compEnvC scope cl C env) (.ListComp elt [⟨t0, i0, ifs0, 0⟩, ⟨t1, i1, ifs1, 0⟩] scope pos) 1 i1 (.ref D)) v k s) (fun Inv turn k s hk => jshape2 (hs1 C) Inv turn k s hk) (fun v k k' s => JTurn.mono (fun k k' s => JDeep.mono k k' s) v k k' s) S₁ F₁ N₁ ?_
    (fun i => JK C D (J i)) ?_ ?_ ?_ ?_
  · exact fa1 (Nat.ne_of_gt (Nat.lt_trans hID hDC)) (fa1 (Nat.ne_of_gt hID) fun p hp => Nat.ne_of_lt (hI p hp))
  · rintro i nx ⟨oC, m₂, nD, ys, nx', rfl, _, _, hJ⟩ p hp
    exact List.mem_cons_of_mem _ (List.mem_cons_of_mem _ (hkeep _ _ _ hJ p hp))
  · exact ⟨oC, _, 0, [], news, rfl, hoC, fun p hp => ⟨Nat.ne_of_lt (Nat.lt_trans (lD p hp) hDC), Nat.ne_of_lt (lD p hp)⟩, hJ0⟩
  · rintro i v h tk' o nx hi hP ⟨oC, m₂, nD, ys, nx', rfl, hC, off, hJ⟩ ho F' N' offI
    have T := turn i v ys nx' h tk' o D C oC m₂ nD hi hP hJ ho hC F' N' (fun p hp => offI p (List.mem_cons_of_mem _ (List.mem_cons_of_mem _ hp))) (fun p hp => (off p hp).1) (fun p hp => (off p hp).2) hID hDC
    refine wpAny_mono T (fun _ s₃ h₃ => wpAny_mono h₃ (fun ok s₄ h₄ => ?_) fun _ _ x => x) fun _ _ x => x
    cases ok with
    | false =>
      simp only [Bool.false_eq_true, if_false] at h₄ ⊢
      obtain ⟨h', tk'', oC', m₂', nx'', rfl, F₄, N₄, hC', off', hJ'⟩ := h₄
      refine ⟨h', tk'', _, rfl, F₄, N₄, fa1 (Nat.ne_of_gt (Nat.lt_trans hID hDC)) (fa1 (Nat.ne_of_gt hID) fun p hp => (off' p hp).1), oC', m₂', nD, ys, nx'', rfl, hC', fun p hp => (off' p hp).2, hJ'⟩
    | true =>
      simp only [if_true] at h₄ ⊢
      refine wpAny_mono h₄ (fun xv s₅ h₅ => wpAny_mono h₅ (fun it' s₆ h₆ => ?_) fun _ _ x => x) fun _ _ x => x
      exact jin (s₀ := { s₂ with heap := h, toks := tk' }) hID hDC h₆.1 h₆.2
  · rintro h tk' nx ⟨oC, m₂, nD, ys, nx', rfl, hC, off, hJ⟩ F' N'
    refine ⟨⟨_, rfl⟩, oC, m₂, (D, listOf (List.toArray ys) nD) :: nx', F', N', hC, fa1 (Nat.ne_of_lt hDC) fun p hp => (off p hp).1, fun h' tk'' F'' N'' => done D ys nx' h' tk'' nD hJ F'' N'' (fun p hp => (off p hp).2) lD⟩
end

end
section
section
variable {prog : Program} {w : World} {A : Around} {s : Shared} {h₀ : Heap} {L : Addr} {m : Str → Option Value} {news : List (Addr × Obj)} {env : Env}
inductive JFN (h₀ : Heap) (L : Addr) (I : Addr) (o : Obj) (J : (Str → Option Value) → List (Addr × Obj) → Prop) (s₁ : Shared) (s₂ : Shared) : Prop
  | mk (h' tk m' nx) (x0 : s₂ = { s₁ with heap := h', toks := tk }) (x1 : Fr h₀ L h' m') (x2 : News h₀ L h' ((I, o) :: nx)) (x3 : ∀ p ∈ nx, p.1 ≠ I) (x4 : J m' nx) : JFN h₀ L I o J s₁ s₂
inductive JFInv (h₀ : Heap) (L : Addr) (I : Addr) (n : Nat) (St : Nat → Heap → Prop) (J : Nat → (Str → Option Value) → List (Addr × Obj) → Prop) (s : Shared) (k : Nat) (s' : Shared) : Prop
  | mk (i h' tk m' nx) (x0 : s' = { s with heap := h', toks := tk }) (x1 : St i h') (x2 : Fr h₀ L h' m') (x3 : News h₀ L h' nx) (x4 : ∀ p ∈ nx, p.1 ≠ I) (x5 : J i m' nx) (x6 : i ≤ n) (x7 : k = n + 1 - i) : JFInv h₀ L I n St J s k s'
def JFEnd (h₀ : Heap) (L : Addr) (I : Addr) (o : Obj) (J : (Str → Option Value) → List (Addr × Obj) → Prop) (Q : Flow → Shared → Prop) (s₁ : Shared) (f : Flow) (s₂ : Shared) : Prop :=
  match f with
  | .ret v => Q (.ret v) s₂
  | .brk => Q .next s₂
  | _ => JFN h₀ L I o J s₁ s₂
theorem JFEnd.intro {I : Addr} {o : Obj} {J : (Str → Option Value) → List (Addr × Obj) → Prop} {Q : Flow → Shared → Prop} {s₁ : Shared} {h' : Heap} {tk : Nat} {m' : Str → Option Value} {all : List (Addr × Obj)} (nx : List (Addr × Obj)) (F : Fr h₀ L h' m') (N : News h₀ L h' all) (hs : ∀ p ∈ (I, o) :: nx, p ∈ all)
    (off : ∀ p ∈ nx, p.1 ≠ I) (hJ : J m' nx) : JFEnd h₀ L I o J Q s₁ .next { s₁ with heap := h', toks := tk } := ⟨h', tk, m', nx, rfl, F, jsub N hs, off, hJ⟩
inductive JFor (prog : Program) (w : World) (A : Around) (h₀ : Heap) (L : Addr) (env : Env) (target : Expr) (body : List Stmt) (Q : Flow → Shared → Prop) (it : Value) (s₂ : Shared) : Prop
  | mk (I cls n P keep m news) (J : Nat → (Str → Option Value) → List (Addr × Obj) → Prop)
    (x0 : it = .ref I)
    (x1 : JSrc prog w A h₀ L I cls n P keep s₂.heap)
    (x2 : Fr h₀ L s₂.heap m)
    (x3 : News h₀ L s₂.heap news)
    (x4 : ∀ p ∈ news, p.1 < I)
    (x5 : ∀ i m nx, J i m nx → ∀ p ∈ keep, p ∈ nx)
    (x6 : J 0 m news)
    (x7 : ∀ i v m₁ nx h tk o, i < n → P i v → J i m₁ nx → o.cls = .type cls → Fr h₀ L h m₁ → News h₀ L h ((I, o) :: nx) → (∀ p ∈ nx, p.1 ≠ I) →       wpAny (model prog w) A (assign target env v) (fun _ s₃ => wpAny (model prog w) A (execs body env) (JFEnd h₀ L I o (J (i + 1)) Q { s₂ with heap := h, toks := tk }) (fun _ _ => False) s₃) (fun _ _ => False) { s₂ with heap := h, toks := tk })
    (x8 : ∀ h tk m₁ nx, J n m₁ nx → Fr h₀ L h m₁ → News h₀ L h nx → Q .next { s₂ with heap := h, toks := tk }) : JFor prog w A h₀ L env target body Q it s₂
theorem jfor {target iter : Expr} {body : List Stmt} {pos : Pos} {Q : Flow → Shared → Prop}
    (F₀ : Fr h₀ L s.heap m) (h : wpAny (model prog w) A (eval iter env) (fun xv s₁ => wpAny (model prog w) A (pyIter xv) (fun it s₂ => JFor prog w A h₀ L env target body Q it s₂) (fun _ _ => False) s₁) (fun _ _ => False) s)
    (hs : ∀ x, foldedSetIterable iter env x = pure x := by intro _; rfl) :
    wpAny (model prog w) A (exec (.For target iter body [] pos) env) Q (fun _ _ => False) s := by
  refine wpAny_For (wpAny_mono h (fun xv s₁ h₁ => wpAny_mono h₁ (fun it s₂ h₂ => ?_) fun _ _ e => e) fun _ _ e => e) hs
  obtain ⟨I, cls, n, P, keep, m, news, J, rfl, S, F, N, hI, hkeep, h0, turn, done⟩ := h₂
  obtain ⟨fp, St, W, hgo, hobj, hLf, hfp, hI₀, hst⟩ := S
  have hIf : I ∈ fp := W.sub I (List.mem_singleton.mpr rfl)
  have hLI : L ≠ I := fun e => hLf (e ▸ hIf)
  refine codeAny_forLoop_any (JFInv h₀ L I n St J s₂) ?_ (n + 1)
    ⟨0, s₂.heap, s₂.toks, m, news, rfl, hst, F, N, fun p hp => Nat.ne_of_lt (hI p hp), h0, Nat.zero_le _, rfl⟩
  rintro k s' ⟨i, h', tk, m', nx, rfl, hst', F', N', off', hJ, hi, rfl⟩
  refine wpAny_mono (E := fun _ _ => False) ?_ (fun _ _ x => x) fun _ _ x => x.elim
  by_cases hlt : i < n
  · refine W.item i _ _ _ hlt hst' fun v h₁ tk₁ hP hst₁ hk₁ => ?_
    have F₁ : Fr h₀ L h₁ m' := LCg.fr_but F' hk₁ hLI hI₀
    have N₁ : News h₀ L h₁ nx := LCg.news_but N' hk₁ off'
    obtain ⟨o, ho, hoc⟩ := hobj _ _ hst₁
    have N₂ : News h₀ L h₁ ((I, o) :: nx) := fa1 ⟨ho, Ne.symm hLI, hI₀⟩ N₁
    have T := turn i v m' nx h₁ tk₁ o hlt hP hJ hoc F₁ N₂ off'
    refine hgo _ _ _ _ _ _ hst₁ (wpAny_mono T (fun _ s₃ h₃ => wpAny_mono h₃ (fun f s₄ h₄ => ?_) fun _ _ x => x.elim) fun _ _ x => x.elim)
    have fin : JFN h₀ L I o (J (i + 1)) { s₂ with heap := h₁, toks := tk₁ } s₄ → ∃ j, j < n + 1 - i ∧ JFInv h₀ L I n St J s₂ j s₄ := by
      rintro ⟨h₉, tk₄, m₄, nx₄, rfl, F₄, N₄, off₄, J₄⟩
      refine ⟨n + 1 - (i + 1), by omega, i + 1, h₉, tk₄, m₄, nx₄, rfl, ?_, F₄, fun p hp => N₄ p (List.mem_cons_of_mem _ hp), off₄, J₄, hlt, rfl⟩
      refine W.frame _ _ _ hst₁ fun b hb o' e => ?_
      rcases hfp b hb with rfl | ⟨ob, hob⟩
      · have e1 := (N₄ _ (List.mem_cons_self)).1
        rw [ho] at e; cases e; exact e1
      · have e1 := (N₁ _ (hkeep _ _ _ hJ _ hob)).1
        have e2 := (N₄ _ (List.mem_cons_of_mem _ (hkeep _ _ _ J₄ _ hob))).1
        rw [e] at e1; cases e1; exact e2
    cases f with
    | ret v => exact h₄
    | brk => exact h₄
    | next => exact fin h₄
    | cont => exact fin h₄
  · obtain rfl : i = n := Nat.le_antisymm hi (Nat.not_lt.mp hlt)
    refine W.done _ _ _ hst' fun h₁ tk₁ hk₁ => wpAny_execs_nil ?_
    exact done h₁ tk₁ m' nx hJ (LCg.fr_but F' hk₁ hLI hI₀) (LCg.news_but N' hk₁ off')
end

end
section
def isBoolOf : Bool → Value → Bool
  | b, .bool c => c == b
  | _, _ => false
theorem isBoolOf_shape {b : Bool} {v : Value} (h : isBoolOf b v = true) : v = .bool b := by
  cases v <;> simp_all [isBoolOf]
section
variable {prog : Program} {w : World} {A : Around} {E : Value → Shared → Prop} {s : Shared}
theorem jhash_bool {b : Bool} {Q : Int → Shared → Prop} (h : Q (if b = true then 1 else 0) { s with toks := s.toks + 1 }) : wpAny (model prog w) A (pyHash (.bool b)) Q E s := by
  unfold pyHash
  have hT : s.TypeIs (.bool b) "bool" := rfl
  have hv : [Value.bool b].any Value.onHeap = false := rfl
  refine wpAny_bind ?_
  rw [cRoomFor, if_neg (by rw [hv]; exact Bool.false_ne_true)]; refine wpAny_pure ?_
  refine wpAny_bind (wpAny_specialOf hT PySem.F.slot_bool_hash.lookup ?_)
  show wpAny _ _ (if (some (Value.builtin "int.__hash__") == some Value.none) = true then _ else _) Q E s
  rw [if_neg (by rw [beq_builtin_none]; exact Bool.false_ne_true)]
  refine wpAny_bind (wpAny_specialOf hT PySem.F.slot_bool_hash.lookup ?_)
  show wpAny _ _ (callSpecialIfBoundUnlessNone? (.bool b) "__hash__" _ >>= _) Q E s
  refine wpAny_bind (wpAny_callSpecialIfBoundUnlessNone?_slot hT PySem.F.slot_bool_hash
    (wpAny_call_entry PySem.F.slot_bool_hash hT PySem.F.entry_int_hash
      (show wpAny _ _ (do ret (← mkInt (rawHash (if b = true then 1 else 0)))) _ _ s from wpAny_ret_mkInt ?_) (PySem.F.args_int_hash_1 _)))
  cases b
  · show wpAny _ _ (if (decide (-(2 : Int) ^ 63 ≤ rawHash 0) && decide (rawHash 0 < 2 ^ 63)) = true then _ else _) Q E _
    rw [if_pos (by decide)]
    exact wpAny_pure h
  · show wpAny _ _ (if (decide (-(2 : Int) ^ 63 ≤ rawHash 1) && decide (rawHash 1 < 2 ^ 63)) = true then _ else _) Q E _
    rw [if_pos (by decide)]
    exact wpAny_pure h
theorem jeq_bool {a b : Bool} {Q : Bool → Shared → Prop} (h : Q (decide (a = b)) s) : wpAny (model prog w) A (eqBool (.bool a) (.bool b)) Q E s := by
  unfold eqBool
  show wpAny _ _ (if (Value.bool a == Value.bool b) = true then _ else _) Q E s
  by_cases hab : (Value.bool a == Value.bool b) = true
  · rw [if_pos hab]
    have e : a = b := by have := eq_of_beq hab; injection this
    subst e
    exact wpAny_bind (wpAny_rule (wpAny_pure (by simpa using h)))
  · rw [if_neg hab]
    have e : (a == b) = decide (a = b) := by cases a <;> cases b <;> rfl
    exact wpAny_bind (show wpAny _ _ (compareOp .Eq (.bool a) (.bool b)) _ _ _ from eq_bool (wpAny_truthy_bool (by rw [e]; exact h)))
end
def boolKind (prog : Program) (w : World) : KeyKind prog w Bool where
  is := isBoolOf
  hash := fun b => if b = true then 1 else 0
  inj := fun v a b ha hb => by
    have e := isBoolOf_shape ha
    rw [isBoolOf_shape hb] at e
    injection e with e
    exact e.symm
  byValue := fun k v h => by rw [isBoolOf_shape h]; rfl
  pyHash := fun hv h => by rw [isBoolOf_shape hv]; exact jhash_bool h
  eqBool := fun hu hv h => by rw [isBoolOf_shape hu, isBoolOf_shape hv]; exact jeq_bool h
  «strs» := fun k x t v h => by simp [isBoolOf] at h
theorem boolKind_is (prog : Program) (w : World) (b : Bool) : (boolKind prog w).is b (.bool b) = true := by cases b <;> rfl

end
section
theorem jm1 {m : Str → Option Value} {x : Str} {v : Value} (h : m x = some v) : (fun y => if y = x then some v else m y) = m := by
  funext y
  by_cases e : y = x
  · rw [if_pos e, e, h]
  · rw [if_neg e]
theorem jfr1 {h₀ h : Heap} {L : Addr} {m : Str → Option Value} {x : Str} {v : Value} (F : Fr h₀ L h m) (hx : m x = some v) : Fr h₀ L h (fun y => if y = x then some v else m y) := by rw [jm1 hx]; exact F
theorem jfr2 {h₀ h : Heap} {L : Addr} {m : Str → Option Value} {x x' : Str} {v v' : Value} (F : Fr h₀ L h m) (hx : m x = some v) (hx' : m x' = some v') : Fr h₀ L h (fun y => if y = x then some v else if y = x' then some v' else m y) := by
  have e := jm1 hx'
  have e2 := jm1 hx
  have : (fun y => if y = x then some v else if y = x' then some v' else m y) = m := by
    conv => lhs; ext y; rw [show (if y = x' then some v' else m y) = m y from congrFun e y]
    exact e2
  rw [this]; exact F
theorem jdict_empty {prog : Program} {w : World} {K K' : Type} [DecidableEq K] [DecidableEq K'] {k1 : KeyKind prog w K} {k2 : KeyKind prog w K'} {o : Obj} (h : o.IsDictOf k1 []) : o.IsDictOf k2 [] := by
  obtain ⟨es, ep, hc, hd, hk, hp, hn⟩ := h
  have e : es = #[] := by
    have := hp.length
    simp at this
    exact this
  subst e
  exact ⟨#[], ep, hc, hd, by intro e he; simp at he, .nil, by simp⟩
def AllNe (d : Addr) : List (Addr × Obj) → Prop
  | [] => True
  | p :: r => @Ne Nat p.1 d ∧ AllNe d r
theorem allNe_of {d : Addr} : ∀ {l : List (Addr × Obj)}, (∀ p ∈ l, p.1 ≠ d) → AllNe d l
  | [], _ => trivial
  | p :: _, h => ⟨h p (.head _), allNe_of fun q hq => h q (.tail _ hq)⟩
theorem jltne {d : Addr} {l : List (Addr × Obj)} (h : ∀ p ∈ l, p.1 < d) : ∀ p ∈ l, p.1 ≠ d := fun p hp => Nat.ne_of_lt (h p hp)

end
section

section
variable {prog : Program} {w : World} {A : Around} {E : Value → Shared → Prop} {s : Shared} {h₀ : Heap} {L a kS : Addr} {m : Str → Option Value} {news : List (Addr × Obj)} {vs ks : List Value}
theorem jss_keyed {f : Value} {n : Nat} {P : PySem.Fin → Shared → Prop} (F : Fr h₀ L s.heap m) (N : News h₀ L s.heap news) (ho : s.heap.get? a = some (seqObj "list" vs.toArray n)) (haL : a ≠ L) (ha0 : h₀.get? a = none) (hna : ∀ p ∈ news, p.1 ≠ a)
    (h2 : vs.length < 2)
    (h : ∀ kS e1 h', Fr h₀ L h' m → News h₀ L h' ((kS, seqObj "list" #[] 0) :: (a, seqObj "list" #[] e1) :: news) → a < kS → (∀ q ∈ news, q.1 < kS) →
      KatKeys prog w A h₀ L m kS f (fun ks e s' => KatFin h₀ L m kS a ks e e1 vs (fun s4 => P (.done (.ret .none)) s4) s') vs [] 0 { s with heap := h' }) :
    wpAny (model prog w) A (ksk_tree a f false) P E s := by
  have ha : a < s.heap.objs.size := Heap.lt_size ho
  have s1 := Heap.SameBut.update s.heap a (Obj.mapSeq fun _ => (#[] : Array Value))
  obtain ⟨e1, ho1⟩ : ∃ e1, (s.heap.update a (Obj.mapSeq fun _ => (#[] : Array Value))).get? a = some (seqObj "list" #[] e1) := ⟨_, get?_update_seq ho fun _ => #[]⟩
  have F1 := kas_fr F s1 haL ha0
  have N1 := kas_news N s1 hna
  have hkS : ((s.heap.update a (Obj.mapSeq fun _ => (#[] : Array Value))).push (seqObj "tuple" vs.toArray 0)).objs.size = s.heap.objs.size + 1 := by rw [size_push', Heap.size_update]
  have hLk : L < ((s.heap.update a (Obj.mapSeq fun _ => (#[] : Array Value))).push (seqObj "tuple" vs.toArray 0)).objs.size := (F1.push _).ns.lt
  unfold ksk_tree
  refine wpAny_bind (listItems_at ho rfl ?_)
  refine wpAny_bind (listUpdate_at ho rfl ?_ (by rw [List.size_toArray, sizeLine_eq]; omega) (Nat.zero_le _))
  refine wpAny_bind (seqEpoch_at ho1 rfl ?_)
  refine wpAny_bind (wpAny_newTuple ?_ (by show vs.length ≤ _; rw [sizeLine_eq]; omega))
  refine wpAny_bind (wpAny_newList ?_ (Nat.zero_le _))
  refine wpAny_holding ?_
  refine jss_rest (b := false) (s := { s with heap := ((s.heap.update a (Obj.mapSeq fun _ => (#[] : Array Value))).push (seqObj "tuple" vs.toArray 0)).push (seqObj "list" #[] 0) }) (kS := ((s.heap.update a (Obj.mapSeq fun _ => (#[] : Array Value))).push (seqObj "tuple" vs.toArray 0)).objs.size)
    (Heap.get?_push_size _ rfl) h2 (h _ e1 _ ((F1.push _).push _) (fun p hp => ?_) (by rw [hkS]; exact Nat.lt_succ_of_lt ha) fun q hq => by rw [hkS]; exact Nat.lt_succ_of_lt (Heap.lt_size (N q hq).1))
  rcases List.mem_cons.mp hp with rfl | hp
  · exact ⟨Heap.get?_push_size _ rfl, Nat.ne_of_gt hLk, Heap.get?_none_of_le (Nat.le_trans F.above (Nat.le_of_lt hLk))⟩
  · rcases List.mem_cons.mp hp with rfl | hp
    · exact ⟨Heap.get?_push_of_some _ (Heap.get?_push_of_some _ ho1), haL, ha0⟩
    · exact ⟨Heap.get?_push_of_some _ (Heap.get?_push_of_some _ (N1 p hp).1), (N1 p hp).2⟩
theorem jss_sortedK {l : Addr} {f : Value} {kw : List (Str × Value)} {Q : Value → Shared → Prop} (F : Fr h₀ L s.heap m) (N : News h₀ L s.heap news) (hl : s.heap.IsList l vs.toArray) (h2 : vs.length < 2)
    (ha1 : argsOk "sorted" ⟨[.ref l], kw⟩) (ha2 : ∀ x, argsOk "list.sort" ⟨[.ref x], kw⟩) (ht : ∀ x, Builtin.«list.sort» ⟨[.ref x], kw⟩ = ksk_tree x f false)
    (h : ∀ D kS e1 h', Fr h₀ L h' m → News h₀ L h' ((kS, seqObj "list" #[] 0) :: (D, seqObj "list" #[] e1) :: news) → D < kS → (∀ q ∈ news, q.1 < D) →
      KatKeys prog w A.in1.in1 h₀ L m kS f (fun ks e s' => KatFin h₀ L m kS D ks e e1 vs (fun s4 => Q (.ref D) s4) s') vs [] 0 { s with heap := h' }) :
    wpAny (model prog w) A (call (.builtin "sorted") [.ref l] kw) Q E s := by
  refine call_function_entry_kw kind_sorted plain_sorted entry_sorted ha1 ?_
  unfold Builtin.«sorted»
  refine wpAny_bind (m := checkCount "sorted" 1 1 _) (wpAny_pure ?_)
  refine wpAny_bind (collect_list hl ?_ (by rw [sizeLine_eq]; omega))
  refine wpAny_bind (wpAny_newList ?_ (by rw [sizeLine_eq]; omega))
  have hsz : ((s.heap.push (seqObj "list" #[] 0)).update s.heap.objs.size (Obj.mapSeq (· ++ vs.toArray))).objs.size = s.heap.objs.size + 1 := by
    rw [Heap.size_update, size_push']
  have hoL : (((s.heap.push (seqObj "list" #[] 0)).update s.heap.objs.size (Obj.mapSeq (· ++ vs.toArray))).push (seqObj "list" vs.toArray 0)).get? (s.heap.objs.size + 1) = some (seqObj "list" vs.toArray 0) := by
    rw [← hsz]; exact Heap.get?_push_size _ rfl
  have keep : ∀ b o, s.heap.get? b = some o → (((s.heap.push (seqObj "list" #[] 0)).update s.heap.objs.size (Obj.mapSeq (· ++ vs.toArray))).push (seqObj "list" vs.toArray 0)).get? b = some o := fun b o q => by
    have hlt : b < s.heap.objs.size := Heap.lt_size q
    rw [Heap.get?_push_ne _ _ _ (by rw [hsz]; exact Nat.ne_of_lt (Nat.lt_succ_of_lt hlt)), Heap.get?_update_ne _ _ _ _ (Nat.ne_of_lt hlt), Heap.get?_push_ne _ _ _ (Nat.ne_of_lt hlt)]
    exact q
  have hL : L < s.heap.objs.size := F.ns.lt
  show wpAny _ _ _ _ _ { s with heap := ((s.heap.push (seqObj "list" #[] 0)).update s.heap.objs.size (Obj.mapSeq (· ++ vs.toArray))).push (seqObj "list" vs.toArray 0) }
  rw [hsz]
  refine wpAny_bind (wpAny_holding (wpAny_call_entry_kw slot_list_sort ⟨_, hoL, rfl⟩ entry_list_sort ?body (ha2 _)))
  case body =>
    have ht' := ht (s.heap.objs.size + 1)
    show wpAny (model prog w) A.in1.in1 (Builtin.«list.sort» ⟨[.ref (s.heap.objs.size + 1)], kw⟩) _ _ _
    rw [ht']
    refine jss_keyed (s := { s with heap := ((s.heap.push (seqObj "list" #[] 0)).update s.heap.objs.size (Obj.mapSeq (· ++ vs.toArray))).push (seqObj "list" vs.toArray 0) })
      (F.kept keep) (N.grown keep) hoL (Nat.ne_of_gt (Nat.lt_succ_of_lt hL)) (Heap.get?_none_of_le (Nat.le_trans F.above (Nat.le_succ_of_le (Nat.le_of_lt hL))))
      (fun p hp => Nat.ne_of_lt (Nat.lt_succ_of_lt (Heap.lt_size (N p hp).1))) h2 fun kS e1 h' F' N' l0 l1 => ?_
    refine kat_keys_mono (h _ kS e1 h' F' N' l0 fun q hq => Nat.lt_succ_of_lt (Heap.lt_size (N q hq).1)) fun ks e s' _ hd => ?_
    exact hd.mono fun s4 hq => ⟨_, rfl, wpAny_pure ⟨_, rfl, hq⟩⟩
/-- the keys of a dict, sorted -/
theorem keys_dat {Z : List (Addr × Obj)} {kvs : List (Str × Value)} {vs : List Value} (hl : vs.length = kvs.length) (hv : ∀ (j : Nat) (v : Value), vs[j]? = some v → ∃ k x, kvs[j]? = some (k, x) ∧ (PySem.strKind prog w).is k v = true) : DatAll Z vs ((kvs.map (·.1)).map Dat.str) := by
  induction vs generalizing kvs with
  | nil =>
    have : kvs = [] := List.length_eq_zero_iff.mp hl.symm
    subst this; exact .nil
  | cons v vs ih =>
    match kvs, hl, hv with
    | [], hl, _ => simp at hl
    | (k, x) :: kvs, hl, hv =>
      obtain ⟨k', x', e, hk⟩ := hv 0 v rfl
      have e' : (k, x) = (k', x') := by simpa using e
      cases e'
      obtain ⟨t, rfl⟩ := Value.isStrOf_shape hk
      refine .cons (.str _ _) (ih (by simpa using hl) fun j u hu => ?_)
      obtain ⟨k2, x2, e2, hk2⟩ := hv (j + 1) u (by simpa using hu)
      exact ⟨k2, x2, by simpa using e2, hk2⟩
theorem j_listD {R0 : List (Addr × Obj)} {Q : Value → Shared → Prop} {d : Addr} {od : Obj} {kvs : List (Str × Value)} (hh : A.handled = none) (F : Fr h₀ L s.heap m) (N : News h₀ L s.heap news) (hm : (d, od) ∈ news) (hd : od.IsDictOf (PySem.strKind prog w) kvs) (lo : (d == sysModules) = false) (h5 : kvs.length ≤ 5)
    (h : ∀ D c h' tk' vs', Fr h₀ L h' m → News h₀ L h' ((D, listOf (List.toArray vs') c) :: news) → (∀ q ∈ news, q.1 < D) → DatAll R0 vs' ((kvs.map (·.1)).map Dat.str) → vs'.length = kvs.length → Q (.ref D) { s with heap := h', toks := tk' }) :
    wpAny (model prog w) A (call (.type "list") [.ref d]) Q E s := by
  obtain ⟨ep, hat⟩ := (kda_dict N hm hd).dictAt
  exact kdl_N (kdl_dict (knd := PySem.strKind prog w) (kvs := kvs) (ep := ep) lo) hh F N hat (kdl_size (by omega)) fun D c h' tk vs F' N' l1 hl hv => h D c h' tk vs F' N' l1 (keys_dat hl hv) hl
theorem j_sortD {R0 : List (Addr × Obj)} {Q : Value → Shared → Prop} {d : Addr} {od : Obj} {kvs : List (Str × Value)} (hh : A.handled = none) (F : Fr h₀ L s.heap m) (N : News h₀ L s.heap news) (hm : (d, od) ∈ news) (hd : od.IsDictOf (PySem.strKind prog w) kvs) (lo : (d == sysModules) = false) (h5 : kvs.length ≤ 5)
    (h₁ : ∀ D c h' tk' vs', Fr h₀ L h' m → News h₀ L h' ((D, listOf (List.toArray vs') c) :: news) → (∀ q ∈ news, q.1 < D) → DatAll R0 vs' ((jsrt ltS (kvs.map (·.1))).map Dat.str) → vs'.length = kvs.length → Q (.ref D) { s with heap := h', toks := tk' }) :
    wpAny (model prog w) A (call (.builtin "sorted") [.ref d]) Q E s := by
  have h := fun D c h' tk' vs' a1 a2 a3 a4 => h₁ D c h' tk' vs' a1 a2 a3 a4 (by rw [a4.length, List.length_map, jsrt_len ltS_ok (by rw [List.length_map]; exact h5), List.length_map])
  obtain ⟨ep, hat⟩ := (kda_dict N hm hd).dictAt
  refine kdu_sorted (kdl_dict (knd := PySem.strKind prog w) (kvs := kvs) (ep := ep) lo) hh F N hat (kdl_size (by omega)) fun D h' tk vs F' N' l1 hl hv => ?_
  have hds : DatAll R0 vs ((kvs.map (·.1)).map Dat.str) := keys_dat hl hv
  have hlen : (kvs.map (·.1)).length = vs.length := by rw [List.length_map, hl]
  by_cases h2 : vs.length < 2
  · refine wpAny_call_entry slot_list_sort ⟨_, (N' _ List.mem_cons_self).1, rfl⟩ entry_list_sort ?_ (args_list_sort _)
    have nz := N' (D, listOf vs.toArray 0) List.mem_cons_self
    refine jss_list (s := { s with heap := h', toks := tk }) F' (jsub N' fun p hp => List.mem_cons_of_mem _ hp) nz.1 nz.2.1 nz.2.2 (fun p hp => Nat.ne_of_lt (l1 p hp)) h2 fun h'' c F'' N'' => ?_
    refine ⟨_, rfl, h D c h'' tk vs F'' N'' l1 ?_⟩
    rw [jsrt_short (by omega)]
    exact hds
  · refine kat_lsort (vs := vs) (s := { s with heap := h', toks := tk }) F' N' (.head fun p hp => Nat.ne_of_lt (l1 p hp)) (by simp) (by omega) (by omega) fun e1 h'' F'' N'' => ?_
    refine jkind_str hds (by omega) ?_
    rw [← hlen]
    refine jrun_wp (lt := ltAt ltS (kvs.map (·.1))) (n := (kvs.map (·.1)).length) (fun i j C hi hj q => jask_str hds hi hj q) _ [] [] (ltS_ok.at _) (okTn (by omega) (by rw [List.length_map]; omega)) (by simp) (by simp) ?_
    refine KasFin.intro F'' N'' (.head fun p hp => Nat.ne_of_lt (l1 p hp)) fun h3 c F3 N3 => h D c h3 tk _ F3 N3 l1 ?_
    have := datAll_pick hds (jperm ltS (kvs.map (·.1))) (jperm_lt ltS_ok (by rw [List.length_map]; omega))
    rw [jperm_two (by omega)] at this
    rw [jsrt, jperm_two (by omega)]
    exact this
end
set_option maxRecDepth 100000 in
set_option maxHeartbeats 8000000 in
theorem memof_spec {w : World} {mean : ExcName → Option Value} {mg mb : Str → Option Value}
    {dp un : Nat} {gd : Option (List Code)} {cn : Str} {cs : Scope} {a : Addr} {ccd : Value} {cl : List (Str × Addr)} {outer : List Env} {A₀ : Around} {base h₀ : Heap} {L : Addr} {m : Str → Option Value} {R : List (Addr × Obj)} {s : Shared}
    {Q E : Value → Shared → Prop} {t : Addr} {x y : Value} {n : Nat}
    (B : Below A₀ base outer h₀) (F : Fr h₀ L s.heap m) (X : (KK w.params).In h₀) (N : News h₀ L s.heap R)
    (T : Top VV (looseW VV [Str.ofString "ConsumerProtocolSubscription", Str.ofString "RangePartitionAssignor"]) mean mg mb h₀)
    (hk : cs.kind = .function) (ht : (t, ({ cls := .type "tuple", data := .seq #[x, y] n } : Obj)) ∈ R) (hd : dp + 2 < recursionLimit) (hu : un + 16 < cLine)
    (ret : ∀ (h' : Heap) (tk' : Nat), Fr h₀ L h' m → News h₀ L h' R → Q y { s with heap := h', toks := tk' }) :
    wpAny (model PySem.Challenge.rw_je0013_01.row.prog w) (ktrTop dp un gd cn cs L a ccd cl outer) (call (.ref 140) [.ref t]) Q E s := by
  revert X; k_fill; intro X
  refine wpAny_call ?_
  k_dflt ktr_enter
  rename_i g1 L1 h1' FG F1 N1 B1 X1 T1
  refine wpAny_noRaise ?_
  k_steps
  (rename Fr h₀ L _ m => kF); (rename News h₀ L _ _ => kN)
  exact ret _ _ kF kN
abbrev Row := Option Str × Str
def ownD : Option Str → Dat
  | none => .none
  | some s => .str s
abbrev rowD (r : Row) : Dat := .tuple [ownD r.1, .str r.2]
theorem jkeys {w : World} {mean : ExcName → Option Value} {mg mb : Str → Option Value}
    {dp un : Nat} {gd : Option (List Code)} {cn : Str} {cs : Scope} {a : Addr} {ccd : Value} {cl : List (Str × Addr)} {outer : List Env} {A₀ : Around} {base h₀ : Heap} {L : Addr} {m : Str → Option Value} {R : List (Addr × Obj)}
    {kS : Addr} {Fin : List Value → Nat → Shared → Prop}
    (B : Below A₀ base outer h₀) (X : (KK w.params).In h₀)
    (T : Top VV (looseW VV [Str.ofString "ConsumerProtocolSubscription", Str.ofString "RangePartitionAssignor"]) mean mg mb h₀)
    (hk : cs.kind = .function) (hd : dp + 2 < recursionLimit) (hu : un + 16 < cLine) (off : ∀ p ∈ R, p.1 ≠ kS) : ∀ {rows : List Row} {vs ks : List Value} {e : Nat} {s : Shared}, Fr h₀ L s.heap m → News h₀ L s.heap ((kS, seqObj "list" (List.toArray ks) e) :: R) → DatAll R vs (rows.map rowD) →
    (∀ (h' : Heap) (tk' c : Nat) (us : List Value), Fr h₀ L h' m → News h₀ L h' ((kS, seqObj "list" (List.toArray (ks ++ us)) c) :: R) → DatAll R us (rows.map fun r => Dat.str r.2) → Fin (ks ++ us) c { s with heap := h', toks := tk' }) →
    KatKeys PySem.Challenge.rw_je0013_01.row.prog w (ktrTop dp un gd cn cs L a ccd cl outer) h₀ L m kS (.ref 140) Fin vs ks e s
  | [], vs, ks, e, s, F, N, hv, fin => by
    cases hv
    refine KatKeys.nil ?_
    have := fin s.heap s.toks e [] F (by rw [List.append_nil]; exact N) .nil
    rw [List.append_nil] at this
    exact this
  | r :: rows, vs, ks, e, s, F, N, hv, fin => by
    cases hv with
    | cons h1 hv =>
    cases h1 with
    | tuple ht ha =>
    cases ha with
    | cons a1 ha => cases ha with
    | cons a2 ha =>
      cases ha
      refine KatKeys.cons (memof_spec B F X N T hk (List.mem_cons_of_mem _ ht) hd hu fun h' tk' F' N' => ?_)
      refine KatBack.intro F' N' (.head off) fun h'' c F'' N'' => ?_
      refine jkeys B X T hk hd hu off F'' N'' hv fun h3 tk3 c3 us F3 N3 hus => ?_
      have e1 : ∀ (y : Value), ks ++ [y] ++ us = ks ++ y :: us := fun y => by simp
      rw [e1] at N3 ⊢
      exact fin h3 tk3 c3 _ F3 N3 (.cons a2 hus)
set_option maxRecDepth 100000 in
theorem j_sortK {w : World} {mean : ExcName → Option Value} {mg mb : Str → Option Value}
    {dp un : Nat} {gd : Option (List Code)} {cn : Str} {cs : Scope} {a : Addr} {ccd : Value} {cl : List (Str × Addr)} {outer : List Env} {A₀ : Around} {base h₀ : Heap} {L : Addr} {m : Str → Option Value} {R : List (Addr × Obj)} {s : Shared}
    {Q E : Value → Shared → Prop} {l : Addr} {vs : List Value} {nl : Nat} {rows : List Row} {R0 : List (Addr × Obj)}
    (B : Below A₀ base outer h₀) (F : Fr h₀ L s.heap m) (X : (KK w.params).In h₀) (N : News h₀ L s.heap R)
    (T : Top VV (looseW VV [Str.ofString "ConsumerProtocolSubscription", Str.ofString "RangePartitionAssignor"]) mean mg mb h₀)
    (hk : cs.kind = .function) (hm : (l, listOf vs.toArray nl) ∈ R) (hv : DatAll R0 vs (rows.map rowD)) (hs0 : ∀ p ∈ R0, p ∈ R) (h5 : rows.length ≤ 5) (hd : dp + 2 < recursionLimit) (hu : un + 2 + 16 < cLine)
    (ret : ∀ (D : Addr) (vs' : List Value) (c : Nat) (h' : Heap) (tk' : Nat), Fr h₀ L h' m → News h₀ L h' ((D, listOf (List.toArray vs') c) :: R) → (∀ q ∈ R, q.1 < D) → DatAll R0 vs' ((jsrt (fun a b => ltS a.2 b.2) rows).map rowD) → vs'.length = rows.length → Q (.ref D) { s with heap := h', toks := tk' }) :
    wpAny (model PySem.Challenge.rw_je0013_01.row.prog w) (ktrTop dp un gd cn cs L a ccd cl outer) (call (.builtin "sorted") [.ref l] [(Str.ofString "key", .ref 140)]) Q E s := by
  replace ret := fun D vs' c h' tk' a1 a2 a3 a4 => ret D vs' c h' tk' a1 a2 a3 a4 (by rw [a4.length, List.length_map, jsrt_len (ltK_ok _) h5])
  have hl : vs.length = rows.length := by rw [hv.length, List.length_map]
  by_cases h2 : vs.length < 2
  · refine jss_sortedK F N (jIsL N hm) (f := .ref 140) (by omega) ?_ (fun _ => ksk_l1 _ _) (fun _ => ksk_t1 _ _) fun D kS e1 h' F' N' l0 l1 => ?_
    · unfold argsOk; kernel_rfl
    · have off : ∀ p ∈ (D, seqObj "list" #[] e1) :: R, p.1 ≠ kS := by
        intro p hp
        rcases List.mem_cons.mp hp with rfl | hp
        · exact Nat.ne_of_lt l0
        · exact Nat.ne_of_lt (Nat.lt_trans (l1 p hp) l0)
      have hv' : DatAll ((D, seqObj "list" #[] e1) :: R) vs (rows.map rowD) := hv.mono fun p hp => List.mem_cons_of_mem _ (hs0 p hp)
      refine jkeys (un := un + 2) B X T hk hd hu off F' N' hv' fun h3 tk3 c us F3 N3 hus => ?_
      simp only [List.nil_append] at N3 ⊢
      refine KatFin.intro F3 N3 (.head off) fun h4 c4 F4 N4 => ?_
      refine KasFin.intro F4 N4 (.tail (Nat.ne_of_gt l0) (.head fun p hp => Nat.ne_of_lt (l1 p hp))) fun h5' c5 F5 N5 => ?_
      refine ret D _ c5 h5' _ F5 (jsub N5 fun p hp => List.mem_cons_of_mem _ hp) l1 ?_
      rw [jsrt_short (by omega)]
      exact hv
  · refine kat_sortedK F N (jIsL N hm) (b := false) (f := .ref 140) (by omega) (by omega) ?_ (fun _ => ksk_l1 _ _) (fun _ => ksk_t1 _ _) fun D kS e1 h' F' N' l0 l1 => ?_
    · unfold argsOk; kernel_rfl
    · have off : ∀ p ∈ (D, seqObj "list" #[] e1) :: R, p.1 ≠ kS := by
        intro p hp
        rcases List.mem_cons.mp hp with rfl | hp
        · exact Nat.ne_of_lt l0
        · exact Nat.ne_of_lt (Nat.lt_trans (l1 p hp) l0)
      have hv' : DatAll ((D, seqObj "list" #[] e1) :: R) vs (rows.map rowD) := hv.mono fun p hp => List.mem_cons_of_mem _ (hs0 p hp)
      refine jkeys (un := un + 2) B X T hk hd hu off F' N' hv' fun h3 tk3 c us F3 N3 hus => ?_
      have hul : us.length = rows.length := by rw [hus.length, List.length_map]
      simp only [List.nil_append] at N3 ⊢
      have hus' : DatAll ((D, seqObj "list" #[] e1) :: R) us ((rows.map (·.2)).map Dat.str) := by rw [List.map_map]; exact hus
      refine jkind_str hus' (by omega) ?_
      rw [hl]
      show KasT.kasWp (kas_ask _ w _ oneType' us) (kas_sort rows.length) _ _
      have e2 : rows.length = (rows.map (·.2)).length := by rw [List.length_map]
      refine jrun_wp (lt := ltAt ltS (rows.map (·.2))) (n := rows.length) (fun i j C hi hj q => jask_str hus' (by rw [List.length_map]; exact hi) (by rw [List.length_map]; exact hj) q) _ [] [] (ltS_ok.at _) (okTn (by omega) h5) (by simp) (by simp) ?_
      refine KatFin.intro F3 N3 (.head off) fun h4 c4 F4 N4 => ?_
      refine KasFin.intro F4 N4 (.tail (Nat.ne_of_gt l0) (.head fun p hp => Nat.ne_of_lt (l1 p hp))) fun h5' c5 F5 N5 => ?_
      refine ret D _ c5 h5' _ F5 (jsub N5 fun p hp => List.mem_cons_of_mem _ hp) l1 ?_
      have := datAll_pick hv (jperm (fun a b : Row => ltS a.2 b.2) rows) (jperm_lt (ltK_ok _) h5)
      rw [jperm_two (by omega)] at this
      rw [jsrt, jperm_two (by omega)]
      rw [ltAt_map]
      exact this

end
section
structure Mem where
  name : Str
  own : Option Str
  topics : List Str
def ownV : Option Str → Tok → Value
  | none, _ => .none
  | some s, t => .str s t
theorem ownV_dat (news : List (Addr × Obj)) (o : Option Str) (t : Tok) : DatIn news (ownV o t) (ownD o) := by
  cases o with
  | none => exact .none
  | some s => exact .str _ _
inductive MemAt (news : List (Addr × Obj)) (v : Value) (mm : Mem) : Prop
  | mk (x dx sub ds tl h1 h2 h3 t1 t2 t3 tn to n g1 g2 g3 g4 g5 s1 s2 s3 s4 s5 v1 v3 v4 v5 k)
    (x0 : v = .ref x)
    (x1 : (x, instObj 87 dx) ∈ news)
    (x2 : (dx, dictOf [⟨h1, .str (Str.ofString "member_id") t1, .str mm.name tn⟩, ⟨h2, .str (Str.ofString "group_instance_id") t2, ownV mm.own to⟩, ⟨h3, .str (Str.ofString "metadata") t3, .ref sub⟩] n) ∈ news)
    (x3 : (sub, instObj 40 ds) ∈ news)
    (x4 : (ds, dictOf [⟨g1, .str (Str.ofString "version") s1, v1⟩, ⟨g2, .str (Str.ofString "topics") s2, .ref tl⟩, ⟨g3, .str (Str.ofString "user_data") s3, v3⟩, ⟨g4, .str (Str.ofString "owned_partitions") s4, v4⟩, ⟨g5, .str (Str.ofString "generation_id") s5, v5⟩] k) ∈ news)
    (x5 : DatIn news (.ref tl) (.list (mm.topics.map Dat.str))) : MemAt news v mm
theorem MemAt.mono {news news' : List (Addr × Obj)} {v : Value} {mm : Mem} (h : MemAt news v mm) (hs : ∀ p ∈ news, p ∈ news') : MemAt news' v mm := by
  obtain ⟨x, dx, sub, ds, tl, h1, h2, h3, t1, t2, t3, tn, to, n, g1, g2, g3, g4, g5, s1, s2, s3, s4, s5, v1, v3, v4, v5, k, e, a, b, c, d, f⟩ := h
  exact ⟨x, dx, sub, ds, tl, h1, h2, h3, t1, t2, t3, tn, to, n, g1, g2, g3, g4, g5, s1, s2, s3, s4, s5, v1, v3, v4, v5, k, e, hs _ a, hs _ b, hs _ c, hs _ d, f.mono hs⟩
structure Ent where
  t : Str
  a : Addr
  o : Obj
def entKvs (es : List Ent) : List (Str × Value) := es.map fun c => (c.t, .ref c.a)
def entLed (es : List Ent) : List (Addr × Obj) := es.map fun c => (c.a, c.o)
structure EntOk (Z : List (Addr × Obj)) (d : Addr) (es : List Ent) : Prop where
  nt : (es.map (·.t)).Nodup
  na : (es.map (·.a)).Nodup
  offd : ∀ c ∈ es, @Ne Nat c.a d
  off : ∀ c ∈ es, ∀ p ∈ Z, p.1 ≠ c.a
  zd : ∀ p ∈ Z, p.1 ≠ d
theorem stored_none {kvs : List (Str × Value)} {t : Str} {v : Value} (h : valueAt kvs t = none) : stored kvs t v = kvs ++ [(t, v)] := by
  unfold valueAt at h
  unfold stored
  rw [if_neg]
  rw [List.any_eq_true]
  rintro ⟨x, hx, hxt⟩
  have := List.find?_eq_none.mp (Option.map_eq_none_iff.mp h) x hx
  exact this hxt
section
variable {Z : List (Addr × Obj)} {d : Addr} {pre post es : List Ent} {c : Ent}
end
theorem nodup_len {α : Type} [DecidableEq α] : ∀ {l s : List α}, l.Nodup → (∀ x ∈ l, x ∈ s) → l.length ≤ s.length
  | [], _, _, _ => Nat.zero_le _
  | a :: l, s, hn, hs => by
    have ha := hs a List.mem_cons_self
    have ih := nodup_len (l := l) (s := s.erase a) (List.nodup_cons.mp hn).2 fun x hx => (List.mem_erase_of_ne (fun e => (List.nodup_cons.mp hn).1 (by rw [← e]; exact hx))).mpr (hs x (List.mem_cons_of_mem _ hx))
    have := List.length_erase_of_mem ha
    have : 0 < s.length := List.length_pos_of_mem ha
    rw [List.length_cons]
    omega

end
section
def rowsIn (tps : List Str) (mm : Mem) (t : Str) : List Row := (tps.filter (· == t)).map fun _ => (mm.own, mm.name)
def rowsOf (mems : List Mem) (t : Str) : List Row := mems.flatMap fun mm => rowsIn mm.topics mm t
theorem rowsIn_step {tps : List Str} {j : Nat} {t0 : Str} (h : tps[j]? = some t0) (mm : Mem) (t : Str) : rowsIn (tps.take (j + 1)) mm t = rowsIn (tps.take j) mm t ++ (if t0 = t then [(mm.own, mm.name)] else []) := by
  unfold rowsIn
  rw [List.take_add_one, h, Option.toList_some, List.filter_append, List.map_append]
  by_cases e : t0 = t
  · rw [if_pos e]; simp [e]
  · rw [if_neg e]; simp [e]
theorem rowsIn_nil (mm : Mem) (t : Str) : rowsIn [] mm t = [] := rfl
theorem rowsOf_step {mems : List Mem} {i : Nat} {mm : Mem} (h : mems[i]? = some mm) (t : Str) : rowsOf (mems.take (i + 1)) t = rowsOf (mems.take i) t ++ rowsIn mm.topics mm t := by
  unfold rowsOf
  rw [List.take_add_one, h, Option.toList_some, List.flatMap_append]
  simp
theorem rowsOf_le (mems : List Mem) (i : Nat) (t : Str) : (rowsOf (mems.take i) t).length ≤ (rowsOf mems t).length := by
  have e : rowsOf mems t = rowsOf (mems.take i) t ++ rowsOf (mems.drop i) t := by
    unfold rowsOf
    rw [← List.flatMap_append, List.take_append_drop]
  rw [e, List.length_append]; omega
theorem rowsIn_le (tps : List Str) (j : Nat) (mm : Mem) (t : Str) : (rowsIn (tps.take j) mm t).length ≤ (rowsIn tps mm t).length := by
  have e : rowsIn tps mm t = rowsIn (tps.take j) mm t ++ rowsIn (tps.drop j) mm t := by
    unfold rowsIn
    rw [← List.map_append, ← List.filter_append, List.take_append_drop]
  rw [e, List.length_append]; omega
theorem rows_le {mems : List Mem} {i j : Nat} {mm : Mem} (h : mems[i]? = some mm) (t : Str) : (rowsOf (mems.take i) t ++ rowsIn (mm.topics.take j) mm t).length ≤ (rowsOf mems t).length := by
  refine Nat.le_trans ?_ (rowsOf_le mems (i + 1) t)
  rw [rowsOf_step h, List.length_append, List.length_append]
  have := rowsIn_le mm.topics j mm t
  omega
theorem rowsOf_top {mems : List Mem} {t : Str} (h : rowsOf mems t ≠ []) : ∃ mm ∈ mems, t ∈ mm.topics := by
  obtain ⟨r, hr⟩ := List.exists_mem_of_ne_nil _ h
  obtain ⟨mm, hm, hr⟩ := List.mem_flatMap.mp hr
  obtain ⟨x, hx, _⟩ := List.mem_map.mp hr
  have := List.mem_filter.mp hx
  exact ⟨mm, hm, by rw [← eq_of_beq this.2]; exact this.1⟩
/-- the consumers of each topic so far -/
def P1 (prog : Program) (w : World) (R : List (Addr × Obj)) (d : Addr) (fn : Str → List Row) (nx : List (Addr × Obj)) : Prop :=
  ∃ es V od, nx = (d, od) :: (entLed es ++ (V ++ R)) ∧ od.IsDictOf (PySem.strKind prog w) (entKvs es) ∧ EntOk (V ++ R) d es ∧
    (∀ c ∈ es, fn c.t ≠ [] ∧ ∃ vs n, c.o = listOf (List.toArray vs) n ∧ DatAll (V ++ R) vs ((fn c.t).map rowD)) ∧ (∀ t, fn t ≠ [] → ∃ c ∈ es, c.t = t)
end
section
local macro_rules | `(tactic| k_lt $h) => `(tactic| ((have hR' := $h); (repeat replace hR' := (List.forall_mem_cons.mp hR').2); (try replace hR' := jltne hR'); (replace $h := allLt_of $h); (try simp only [AllLt, and_true] at $h:ident)))
local macro_rules | `(tactic| k_lt2 $h) => `(tactic| ((have hR' := $h); (repeat replace hR' := (List.forall_mem_cons.mp hR').2); (replace $h := allNe_of $h); (try simp only [AllNe, and_true] at $h:ident)))
local macro_rules | `(tactic| k_all) => `(tactic| assumption)
local macro_rules | `(tactic| k_mem) => `(tactic| assumption)
local macro_rules | `(tactic| walk_at "J sub") => `(tactic| first
  | exact fun _ h => h
  | exact List.forall_mem_nil _
  | (refine List.forall_mem_cons.mpr ⟨?jA, ?jB⟩; (case jA => k_mem); (case jB => walk_at "J sub"))
  | (refine List.forall_mem_append.mpr ⟨?jA, ?jB⟩; (case jA => walk_at "J sub"); (case jB => walk_at "J sub"))
  | (intro p hp; k_mem))
local macro_rules | `(tactic| walk_at "pyIter ref") => `(tactic| (k_here; (with_reducible show wpAny _ _ (pyIter (Value.ref _)) (fun it s₂ => JFor _ _ _ _ _ _ _ _ _ it s₂) _ _); refine Stop.out ?_))
local macro_rules | `(tactic| walk_at "JFEnd") => `(tactic| refine Stop.out ?_)
local macro_rules | `(tactic| walk_at "J off") => `(tactic| first
  | (refine List.forall_mem_cons.mpr ⟨?jA, ?jB⟩; (case jA => ((try dsimp only); (repeat' apply And.intro) <;> first | assumption | k_ne)); (case jB => walk_at "J off"))
  | assumption
  | (intro p hp; (repeat' apply And.intro) <;> solve_by_elim))
local macro_rules | `(tactic| walk_at "exec For") => `(tactic| (k_here; (with_reducible show wpAny _ _ (exec (Stmt.For _ _ _ _ _) _) _ (fun _ _ => False) _); k_dflt (refine' jfor ?F ?_ ?h; (case F => k_asm); (case h => intro _; rfl))))
local macro_rules | `(tactic| walk_at "setItem ref bool") => `(tactic| (k_here; k_dflt (refine' kda_set (knd := boolKind _ _) ?F ?N ?U ?d (boolKind_is _ _ _) ?z ?_; (case F => k_asm); (case N => k_asm); (case U => k_updF); (case d => k_asm); (case z => kob_size)); intro h' o' F' N' hd'; (try dsimp only at N')))
local macro_rules | `(tactic| walk_at "subscriptTail") => `(tactic| (k_here; (with_reducible show wpAny _ _ (subscriptTail _ _ (Value.ref _) (Value.bool _)) _ _ _); k_dflt (refine' kda_item (knd := boolKind _ _) ?N ?m ?d (boolKind_is _ _ _) ?v ?_ ?s ?g; (case s => with_unfolding_all rfl); (case g => intro _; with_unfolding_all rfl); (case N => k_asm); (case m => k_mem); (case d => k_asm); (case v => rfl))))
def KindAt (R : List (Addr × Obj)) (b : Bool) (v : Value) : Prop := ∃ t x y n, v = .ref t ∧ (t, ({ cls := .type "tuple", data := .seq #[x, y] n } : Obj)) ∈ R ∧ (if b = true then ∃ s k, x = .str s k else x = .none)
/-- the groups so far -/
def GSt (R : List (Addr × Obj)) (prog : Program) (w : World) (g : Addr) (p1 p2 : List Value) (last : Value) (nx : List (Addr × Obj)) : Prop :=
  ∃ og, (g == sysModules) = false ∧
  ((p1 = [] ∧ p2 = [] ∧ last = .none ∧ nx = (g, og) :: R ∧ og.IsDictOf (boolKind prog w) [] ∧ (∀ p ∈ R, p.1 ≠ g)) ∨
   (p1 ≠ [] ∧ p2 = [] ∧ last = .bool true ∧ ∃ l1 n1, nx = (l1, listOf (List.toArray p1) n1) :: (g, og) :: R ∧ og.IsDictOf (boolKind prog w) [(true, .ref l1)] ∧ (∀ p ∈ R, p.1 ≠ g) ∧ (∀ p ∈ R, p.1 ≠ l1) ∧ @LT.lt Nat instLTNat g l1) ∨
   (p1 = [] ∧ p2 ≠ [] ∧ last = .bool false ∧ ∃ l2 n2, nx = (l2, listOf (List.toArray p2) n2) :: (g, og) :: R ∧ og.IsDictOf (boolKind prog w) [(false, .ref l2)] ∧ (∀ p ∈ R, p.1 ≠ g) ∧ (∀ p ∈ R, p.1 ≠ l2) ∧ @LT.lt Nat instLTNat g l2) ∨
   (p1 ≠ [] ∧ p2 ≠ [] ∧ last = .bool false ∧ ∃ l1 n1 l2 n2, nx = (l2, listOf (List.toArray p2) n2) :: (l1, listOf (List.toArray p1) n1) :: (g, og) :: R ∧ og.IsDictOf (boolKind prog w) [(true, .ref l1), (false, .ref l2)] ∧ (∀ p ∈ R, p.1 ≠ g) ∧ (∀ p ∈ R, p.1 ≠ l1) ∧ (∀ p ∈ R, p.1 ≠ l2) ∧ @LT.lt Nat instLTNat g l1 ∧ @LT.lt Nat instLTNat l1 l2))
set_option maxRecDepth 100000 in
set_option maxHeartbeats 8000000 in
theorem group_spec {w : World} {mean : ExcName → Option Value} {mg mb : Str → Option Value}
    {dp un : Nat} {gd : Option (List Code)} {cn : Str} {cs : Scope} {a : Addr} {ccd : Value} {cl : List (Str × Addr)} {outer : List Env} {A₀ : Around} {base h₀ : Heap} {L : Addr} {m : Str → Option Value} {R : List (Addr × Obj)} {s : Shared}
    {Q E : Value → Shared → Prop} {rl : Addr} {nr : Nat} {vs1 vs2 : List Value}
    (B : Below A₀ base outer h₀) (F : Fr h₀ L s.heap m) (X : (KK w.params).In h₀) (N : News h₀ L s.heap R)
    (T : Top VV (looseW VV [Str.ofString "ConsumerProtocolSubscription", Str.ofString "RangePartitionAssignor"]) mean mg mb h₀)
    (hk : cs.kind = .function) (hrl : (rl, listOf (List.toArray (vs1 ++ vs2)) nr) ∈ R) (h1 : ∀ v ∈ vs1, KindAt R true v) (h2 : ∀ v ∈ vs2, KindAt R false v) (hlen : (vs1 ++ vs2).length ≤ 60) (hd : dp + 2 < recursionLimit) (hu : un + 16 < cLine)
    (ret : ∀ (g : Addr) (nx : List (Addr × Obj)) (last : Value) (h' : Heap) (tk' : Nat), Fr h₀ L h' m → News h₀ L h' nx → GSt R PySem.Challenge.rw_je0013_01.row.prog w g vs1 vs2 last nx → Q (.ref g) { s with heap := h', toks := tk' }) :
    wpAny (model PySem.Challenge.rw_je0013_01.row.prog w) (ktrTop dp un gd cn cs L a ccd cl outer) (call (.ref 133) [.ref rl]) Q E s := by
  revert X; k_fill; intro X
  refine wpAny_call ?_
  k_dflt ktr_enter
  rename_i g1 L1 h1' FG F1 N1 B1 X1 T1
  refine wpAny_noRaise ?_
  k_steps
  refine Stop.mk ?_
  (rename Fr g1 L1 _ _ => F2); (rename News g1 L1 _ _ => N2)
  rename_i g _ og gsys hs _ _ _ lg _ _ _
  refine jiter_list (by rfl) F2 N2 (by k_mem) ?_
  intro I hI S F3 N3 lI
  clear F2 N2
  refine ⟨I, _, _, _, _, _, _, fun i m nx => ∃ last, m (Str.ofString "grouped") = some (.ref g) ∧ m (Str.ofString "last") = some last ∧ GSt R PySem.Challenge.rw_je0013_01.row.prog w g (vs1.take i) (vs2.take (i - vs1.length)) last nx, rfl, S, F3, N3, lI, ?_, ?_, ?_, ?_⟩
  · rintro i m nx ⟨last, _, _, og, _, h⟩ p hp
    rw [List.mem_singleton.mp hp]
    rcases h with ⟨_, _, _, rfl, _⟩ | ⟨_, _, _, _, _, rfl, _⟩ | ⟨_, _, _, _, _, rfl, _⟩ | ⟨_, _, _, _, _, _, _, rfl, _⟩ <;> simp [hrl]
  · refine ⟨.none, rfl, rfl, og, gsys, .inl ⟨by simp, by simp, rfl, rfl, jdict_empty hs, lg⟩⟩
  · clear F3 N3 S
    rintro i v m₁ nx h tk o hi hv ⟨last, hm1, hm2, og, _, hst⟩ ho F' N' oI
    by_cases hlt : i < vs1.length
    · -- a static one
      have hv1 : vs1[i]? = some v := by rw [List.getElem?_append_left hlt] at hv; exact hv
      obtain ⟨t, x, y, nt, rfl, ht, sx, kx, rfl⟩ := h1 v (List.mem_of_getElem? hv1)
      have e2 : i - vs1.length = 0 := by omega
      have e3 : i + 1 - vs1.length = 0 := by omega
      simp only [e2, List.take_zero] at hst
      have hv3 : vs1.take (i + 1) = vs1.take i ++ [.ref t] := by rw [List.take_add_one, hv1]; rfl
      rcases hst with ⟨hp1, _, rfl, rfl, hd0, og1⟩ | ⟨hp1, _, rfl, l1, n1, rfl, hd0, og1, ol1, hl1⟩ | ⟨_, hp2, _⟩ | ⟨_, hp2, _⟩
      · have F' := jfr2 F' hm1 hm2
        k_lt2 oI
        k_steps
        refine Stop.mk ?_
        (rename Fr g1 L1 _ _ => F2); (rename News g1 L1 _ _ => N2); (rename Obj.IsDictOf _ _ _ => hd2)
        rename_i hRI _ _ _ _ l1 _ hRl lt1 _ og2 _ _ _
        refine JFEnd.intro ((l1, listOf (List.toArray [.ref t]) (0 + 1)) :: (g, og2) :: R) F2 N2 (by walk_at "J sub") (by walk_at "J off") ⟨.bool true, rfl, rfl, og2, gsys, .inr (.inl ⟨?_, ?_, rfl, l1, 0 + 1, ?_, hd2, og1, hRl, lt1.2.1⟩)⟩
        · rw [hv3]; simp
        · rw [e3]; rfl
        · rw [hv3, hp1]; rfl
      · have F' := jfr2 F' hm1 hm2
        k_lt2 oI
        k_steps
        refine Stop.mk ?_
        (rename Fr g1 L1 _ _ => F2); (rename News g1 L1 _ _ => N2)
        rw [List.push_toArray] at N2
        refine JFEnd.intro ((l1, listOf (List.toArray (vs1.take i ++ [.ref t])) (n1 + 1)) :: (g, og) :: R) F2 N2 (by walk_at "J sub") (by walk_at "J off") ⟨.bool true, rfl, rfl, og, gsys, .inr (.inl ⟨?_, ?_, rfl, l1, n1 + 1, ?_, hd0, og1, ol1, hl1⟩)⟩
        · rw [hv3]; simp
        · rw [e3]; rfl
        · rw [hv3]
      · exact absurd rfl hp2
      · exact absurd rfl hp2
    · -- another one
      have hge : vs1.length ≤ i := Nat.le_of_not_lt hlt
      have hv1 : vs2[i - vs1.length]? = some v := by rw [List.getElem?_append_right hge] at hv; exact hv
      obtain ⟨t, x, y, nt, rfl, ht, rfl⟩ := h2 v (List.mem_of_getElem? hv1)
      have e1 : vs1.take i = vs1 := List.take_of_length_le hge
      have e1' : vs1.take (i + 1) = vs1 := List.take_of_length_le (Nat.le_succ_of_le hge)
      have e3 : i + 1 - vs1.length = i - vs1.length + 1 := by omega
      simp only [e1] at hst
      have hv3 : vs2.take (i + 1 - vs1.length) = vs2.take (i - vs1.length) ++ [.ref t] := by rw [e3, List.take_add_one, hv1]; rfl
      rcases hst with ⟨hp1, hp2, rfl, rfl, hd0, og1⟩ | ⟨hp1, hp2, rfl, l1, n1, rfl, hd0, og1, ol1, hl1⟩ | ⟨hp1, hp2, rfl, l2, n2, rfl, hd0, og1, ol2, hl2⟩ | ⟨hp1, hp2, rfl, l1, n1, l2, n2, rfl, hd0, og1, ol1, ol2, hl1, hl2⟩
      · have F' := jfr2 F' hm1 hm2
        k_lt2 oI
        k_steps
        refine Stop.mk ?_
        (rename Fr g1 L1 _ _ => F2); (rename News g1 L1 _ _ => N2); (rename Obj.IsDictOf _ _ _ => hd2)
        rename_i hRI _ _ _ _ l2 _ hRl lt1 _ og2 _ _ _
        refine JFEnd.intro ((l2, listOf (List.toArray [.ref t]) (0 + 1)) :: (g, og2) :: R) F2 N2 (by walk_at "J sub") (by walk_at "J off") ⟨.bool false, rfl, rfl, og2, gsys, .inr (.inr (.inl ⟨?_, ?_, rfl, l2, 0 + 1, ?_, hd2, og1, hRl, lt1.2.1⟩))⟩
        · rw [e1', hp1]
        · rw [hv3]; simp
        · rw [hv3, hp2]; rfl
      · have F' := jfr2 F' hm1 hm2
        k_lt2 oI
        k_steps
        refine Stop.mk ?_
        (rename Fr g1 L1 _ _ => F2); (rename News g1 L1 _ _ => N2); (rename Obj.IsDictOf _ _ _ => hd2)
        rename_i hRI _ _ _ _ l2 _ hRl lt1 _ og2 _ _ _
        refine JFEnd.intro ((l2, listOf (List.toArray [.ref t]) (0 + 1)) :: (l1, listOf (List.toArray vs1) n1) :: (g, og2) :: R) F2 N2 (by walk_at "J sub") (by walk_at "J off") ⟨.bool false, rfl, rfl, og2, gsys, .inr (.inr (.inr ⟨?_, ?_, rfl, l1, n1, l2, 0 + 1, ?_, hd2, og1, ol1, hRl, hl1, lt1.2.1⟩))⟩
        · rw [e1']; exact hp1
        · rw [hv3]; simp
        · rw [hv3, hp2, e1']; rfl
      · have F' := jfr2 F' hm1 hm2
        k_lt2 oI
        k_steps
        refine Stop.mk ?_
        (rename Fr g1 L1 _ _ => F2); (rename News g1 L1 _ _ => N2)
        rw [List.push_toArray] at N2
        refine JFEnd.intro ((l2, listOf (List.toArray (vs2.take (i - vs1.length) ++ [.ref t])) (n2 + 1)) :: (g, og) :: R) F2 N2 (by walk_at "J sub") (by walk_at "J off") ⟨.bool false, rfl, rfl, og, gsys, .inr (.inr (.inl ⟨?_, ?_, rfl, l2, n2 + 1, ?_, hd0, og1, ol2, hl2⟩))⟩
        · rw [e1']; exact hp1
        · rw [hv3]; simp
        · rw [hv3]
      · have F' := jfr2 F' hm1 hm2
        k_lt2 oI
        k_steps
        refine Stop.mk ?_
        (rename Fr g1 L1 _ _ => F2); (rename News g1 L1 _ _ => N2)
        rw [List.push_toArray] at N2
        refine JFEnd.intro ((l2, listOf (List.toArray (vs2.take (i - vs1.length) ++ [.ref t])) (n2 + 1)) :: (l1, listOf (List.toArray vs1) n1) :: (g, og) :: R) F2 N2 (by walk_at "J sub") (by walk_at "J off") ⟨.bool false, rfl, rfl, og, gsys, .inr (.inr (.inr ⟨?_, ?_, rfl, l1, n1, l2, n2 + 1, ?_, hd0, og1, ol1, ol2, hl1, hl2⟩))⟩
        · rw [e1']; exact hp1
        · rw [hv3]; simp
        · rw [hv3, e1']
  · clear F3 N3 S
    rintro h tk m₁ nx ⟨last, hm1, hm2, hst⟩ F' N'
    rw [List.take_of_length_le (by rw [List.length_append]; omega), List.take_of_length_le (by rw [List.length_append]; omega)] at hst
    have F' := jfr1 F' hm1
    k_steps
    (rename Fr h₀ L _ m => kF); (rename News h₀ L _ _ => kN)
    exact ret g nx last _ _ kF kN hst

end
section
theorem rowsOf_app (a b : List Mem) (t : Str) : rowsOf (a ++ b) t = rowsOf a t ++ rowsOf b t := List.flatMap_append
abbrev stat (p : Str × Str) : Row := (some p.1, p.2)
def unst (r : Row) : Str × Str := (r.1.getD default, r.2)
/-- a topic's consumers in their order -/
def ordOf (A B : List Row) : List Row := (jsrt ltP (A.map unst)).map stat ++ jsrt (fun a b => ltS a.2 b.2) B
theorem rows_own {ms : List Mem} {P : Option Str → Prop} (h : ∀ mm ∈ ms, P mm.own) {t : Str} : ∀ r ∈ rowsOf ms t, P r.1 := by
  intro r hr
  obtain ⟨mm, hm, hr⟩ := List.mem_flatMap.mp hr
  obtain ⟨x, _, rfl⟩ := List.mem_map.mp hr
  exact h mm hm
theorem unst_stat : ∀ {A : List Row}, (∀ r ∈ A, ∃ g, r.1 = some g) → (A.map unst).map stat = A
  | [], _ => rfl
  | r :: A, h => by
    rw [List.map_cons, List.map_cons, unst_stat fun x hx => h x (List.mem_cons_of_mem _ hx)]
    obtain ⟨g, hg⟩ := h r List.mem_cons_self
    obtain ⟨a, b⟩ := r
    have hg : a = some g := hg
    subst hg
    rfl
theorem datAll_app {Z : List (Addr × Obj)} : ∀ {A B : List Dat} {vs : List Value}, DatAll Z vs (A ++ B) → ∃ v1 v2, vs = v1 ++ v2 ∧ DatAll Z v1 A ∧ DatAll Z v2 B
  | [], _, vs, h => ⟨[], vs, rfl, .nil, h⟩
  | _ :: A, B, _, h => by
    cases h with
    | cons h1 h =>
    obtain ⟨v1, v2, rfl, a, b⟩ := datAll_app h
    exact ⟨_ :: v1, v2, rfl, .cons h1 a, b⟩
def P2 (prog : Program) (w : World) (R Z : List (Addr × Obj)) (d : Addr) (keys : List Str) (fn : Str → List Row) (nx : List (Addr × Obj)) : Prop :=
  ∃ es od, nx = (d, od) :: (entLed es ++ R) ∧ od.IsDictOf (PySem.strKind prog w) (entKvs es) ∧ EntOk R d es ∧ es.map (·.t) = keys ∧ ∀ c ∈ es, ∃ vs n, c.o = listOf (List.toArray vs) n ∧ DatAll Z vs ((fn c.t).map rowD)
section
variable {prog : Program} {w : World} {A : Around} {E : Value → Shared → Prop} {s : Shared} {h₀ : Heap} {L : Addr} {m : Str → Option Value} {news : List (Addr × Obj)}
theorem jadd_lists {l b : Addr} {vs ws : List Value} {n k : Nat} {Q : Value → Shared → Prop} (F : Fr h₀ L s.heap m) (N : News h₀ L s.heap news) (hl : (l, listOf (List.toArray vs) n) ∈ news) (hb : (b, listOf (List.toArray ws) k) ∈ news) (hz : vs.length + ws.length ≤ 100)
    (h : ∀ D h', Fr h₀ L h' m → News h₀ L h' ((D, listOf (List.toArray (vs ++ ws)) 0) :: news) → (∀ p ∈ news, p.1 < D) → Q (.ref D) { s with heap := h' }) : wpAny (model prog w) A (binaryOp .Add (.ref l) (.ref b)) Q E s :=
  add_lists F N (jIsL N hl) (jIsL N hb) (fun h' F' N' => h _ h' F' N' fun p hp => Heap.lt_size (N p hp).1) (by rw [sizeLine_eq]; omega)
end

end
section
abbrev intsD (ns : List Int) : Dat := .list (ns.map Dat.int)
theorem valueAt_none {kvs : List (Str × Value)} {t : Str} (h : t ∉ kvs.map (·.1)) : valueAt kvs t = none := by
  unfold valueAt
  rw [List.find?_eq_none.mpr]
  · rfl
  · intro kv hkv
    simp only [decide_eq_true_eq]
    exact fun e => h (List.mem_map.mpr ⟨kv, hkv, e⟩)
/-- the piece of one consumer -/
def sliceOf (ns : List Int) (n k : Nat) : List Int := ((sortZ ns).drop (ns.length / n * k + min k (ns.length % n))).take (ns.length / n + if k + 1 ≤ ns.length % n then 1 else 0)
def ordT (ms1 ms2 : List Mem) (t : Str) : List Row := ordOf (rowsOf ms1 t) (rowsOf ms2 t)
def ordN (ms1 ms2 : List Mem) (t : Str) : List Str := (ordT ms1 ms2 t).map (·.2)
def lookT (cln : List (Str × List Int)) (t : Str) : Option (List Int) := (cln.find? fun p => p.1 = t).map (·.2)
/-- what one topic gives to one member -/
def pieceOf (cln : List (Str × List Int)) (ord : List Str) (t name : Str) (j : Nat) : List (Str × List Int) :=
  match lookT cln t, ord.idxOf? name with
  | some ns, some k => if k < j then [(t, sliceOf ns ord.length k)] else []
  | _, _ => []
theorem lookT_val {Z : List (Addr × Obj)} {t : Str} : ∀ {ckv : List (Str × Value)} {cln : List (Str × List Int)}, ckv.map (·.1) = cln.map (·.1) → DatAll Z (ckv.map (·.2)) (cln.map fun p => intsD p.2) →
    (valueAt ckv t = none ∧ lookT cln t = none) ∨ ∃ v ns, valueAt ckv t = some v ∧ lookT cln t = some ns ∧ DatIn Z v (intsD ns)
  | [], [], _, _ => .inl ⟨rfl, rfl⟩
  | [], _ :: _, h, _ => by simp at h
  | _ :: _, [], h, _ => by simp at h
  | (k, v) :: ckv, (k', ns) :: cln, h, hd => by
    simp only [List.map_cons, List.cons.injEq] at h
    obtain ⟨rfl, h⟩ := h
    cases hd with
    | cons h1 hd =>
    by_cases e : k = t
    · right
      refine ⟨v, ns, ?_, ?_, h1⟩
      · unfold valueAt; rw [List.find?_cons_of_pos (by simpa using e)]; rfl
      · unfold lookT; rw [List.find?_cons_of_pos (by simpa using e)]; rfl
    · have := lookT_val (t := t) h hd
      unfold valueAt lookT at this ⊢
      rw [List.find?_cons_of_neg (by simpa using e), List.find?_cons_of_neg (by simpa using e)]
      exact this
theorem idxOf_at {l : List Str} (hn : l.Nodup) {j : Nat} {x : Str} (h : l[j]? = some x) : l.idxOf? x = some j := by
  induction l generalizing j with
  | nil => simp at h
  | cons y l ih =>
    rw [List.idxOf?_cons]
    cases j with
    | zero =>
      have : y = x := by simpa using h
      simp [this]
    | succ j =>
      have h' : l[j]? = some x := by simpa using h
      have hne : (y == x) = false := by
        simp only [beq_eq_false_iff_ne]
        intro e
        exact (List.nodup_cons.mp hn).1 (e ▸ List.mem_of_getElem? h')
      rw [hne]
      simp only [Bool.false_eq_true, if_false]
      rw [ih (List.nodup_cons.mp hn).2 h']
      rfl
theorem idxOf_lt {l : List Str} {k : Nat} {x : Str} (h : l.idxOf? x = some k) : l[k]? = some x := by
  induction l generalizing k with
  | nil => simp at h
  | cons y l ih =>
    rw [List.idxOf?_cons] at h
    by_cases e : (y == x) = true
    · rw [if_pos e] at h
      have : k = 0 := by simpa using h.symm
      subst this
      simpa using e
    · rw [if_neg e] at h
      obtain ⟨k', hk', rfl⟩ := Option.map_eq_some_iff.mp h
      simpa using ih hk'
theorem piece_step {cln : List (Str × List Int)} {ord : List Str} (hn : ord.Nodup) {t : Str} {ns : List Int} (hl : lookT cln t = some ns) {j : Nat} {x : Str} (hx : ord[j]? = some x) (name : Str) :
    pieceOf cln ord t name (j + 1) = pieceOf cln ord t name j ++ (if x = name then [(t, sliceOf ns ord.length j)] else []) := by
  unfold pieceOf
  rw [hl]
  cases hi : ord.idxOf? name with
  | none =>
    have : x ≠ name := by
      intro e
      rw [e] at hx
      rw [idxOf_at hn hx] at hi
      cases hi
    simp [this]
  | some k =>
    by_cases e : x = name
    · subst e
      have : k = j := by
        have := idxOf_at hn hx
        rw [hi] at this
        exact Option.some.inj this
      subst this
      simp
    · have hk : k ≠ j := by
        intro e2
        have := idxOf_lt hi
        rw [e2, hx] at this
        exact e (Option.some.inj this)
      rw [if_neg e, List.append_nil]
      have : (k < j + 1) = (k < j) := by
        apply propext
        omega
      simp only [this]
theorem piece_zero (cln : List (Str × List Int)) (ord : List Str) (t name : Str) : pieceOf cln ord t name 0 = [] := by
  unfold pieceOf
  split <;> simp
theorem piece_none {cln : List (Str × List Int)} {t : Str} (hl : lookT cln t = none) (ord : List Str) (name : Str) (j : Nat) : pieceOf cln ord t name j = [] := by
  unfold pieceOf
  rw [hl]
theorem piece_keys {cln : List (Str × List Int)} {ord : List Str} {t name : Str} {j : Nat} : ∀ p ∈ pieceOf cln ord t name j, p.1 = t := by
  intro p hp
  unfold pieceOf at hp
  split at hp
  · split at hp
    · rw [List.mem_singleton.mp hp]
    · cases hp
  · cases hp
/-- what a member has got when some topics are through -/
def gotOf (cln : List (Str × List Int)) (ms1 ms2 : List Mem) (ts : List Str) (name : Str) : List (Str × List Int) := ts.flatMap fun t => pieceOf cln (ordN ms1 ms2 t) t name (ordN ms1 ms2 t).length
theorem got_keys {cln : List (Str × List Int)} {ms1 ms2 : List Mem} {ts : List Str} {name : Str} : ∀ p ∈ gotOf cln ms1 ms2 ts name, p.1 ∈ ts := by
  intro p hp
  obtain ⟨t, ht, hp⟩ := List.mem_flatMap.mp hp
  rw [piece_keys p hp]; exact ht
theorem got_step {cln : List (Str × List Int)} {ms1 ms2 : List Mem} {ts : List Str} {i : Nat} {t : Str} (h : ts[i]? = some t) (name : Str) : gotOf cln ms1 ms2 (ts.take (i + 1)) name = gotOf cln ms1 ms2 (ts.take i) name ++ pieceOf cln (ordN ms1 ms2 t) t name (ordN ms1 ms2 t).length := by
  unfold gotOf
  rw [List.take_add_one, h, Option.toList_some, List.flatMap_append]
  simp
theorem piece_len (cln : List (Str × List Int)) (ord : List Str) (t name : Str) (j : Nat) : (pieceOf cln ord t name j).length ≤ 1 := by
  unfold pieceOf
  split
  · split <;> simp
  · simp
theorem got_len (cln : List (Str × List Int)) (ms1 ms2 : List Mem) (name : Str) : ∀ ts : List Str, (gotOf cln ms1 ms2 ts name).length ≤ ts.length
  | [] => Nat.le_refl _
  | t :: ts => by
    have := got_len cln ms1 ms2 name ts
    have h2 := piece_len cln (ordN ms1 ms2 t) t name (ordN ms1 ms2 t).length
    unfold gotOf at this ⊢
    rw [List.flatMap_cons, List.length_append, List.length_cons]
    omega

end
section
section
variable {prog : Program} {w : World} {A : Around} {E : Value → Shared → Prop} {s : Shared} {env : Env} {h₀ : Heap} {target : Expr} {body : List Stmt} {Q : Flow → Shared → Prop}
theorem allObj_mono : ∀ {ws : List (Addr × String)} {k k' : List (Addr × Obj) → Prop}, (∀ its, k its → k' its) → AllObj ws k → AllObj ws k'
  | [], _, _, h, x => h _ x
  | w :: ws, k, k', h, x => fun o ho => allObj_mono (ws := ws) (fun its => h ((w.1, o) :: its)) (x o ho)
theorem unrPost_mono {L : Addr} {s₁ : Shared} {its : List (Addr × Obj)} {r r' : (Str → Option Value) → List (Addr × Obj) → Prop} (h : ∀ m n, r m n → r' m n) {f : Flow} {s₂ : Shared} (x : UnrPostW h₀ L s₁ its r Q f s₂) : UnrPostW h₀ L s₁ its r' Q f s₂ := by
  cases f with
  | ret v => exact x
  | brk => exact x
  | next =>
    obtain ⟨h', tk, m', n', e, F, N, o, y⟩ := x
    exact ⟨h', tk, m', n', e, F, N, o, h _ _ y⟩
  | cont =>
    obtain ⟨h', tk, m', n', e, F, N, o, y⟩ := x
    exact ⟨h', tk, m', n', e, F, N, o, h _ _ y⟩
theorem jitems {ws : List (Addr × String)} {keep : List (Addr × Obj)} {xs : List Itm} (J : Nat → (Str → Option Value) → List (Addr × Obj) → Prop) (hk : ∀ i m nx, J i m nx → SubL keep nx)
    (turn : ∀ i a m₁ nx v h tk, xs[i]? = some a → J i m₁ nx → a.Is v h → Fr h₀ env.locals h m₁ → AllObj ws fun its => News h₀ env.locals h (its ++ nx) →
      wpAny (model prog w) A (assign target env v) (fun _ s₂ => wpAny (model prog w) A (execs body env) (UnrPostW h₀ env.locals { s with heap := h, toks := tk } its (J (i + 1)) Q) E s₂) E { s with heap := h, toks := tk })
    (done : ∀ h tk m nx, J xs.length m nx → Fr h₀ env.locals h m → News h₀ env.locals h nx → Q .next { s with heap := h, toks := tk }) :
    ∀ (ys : List Itm) (i : Nat) (m : Str → Option Value) (nx : List (Addr × Obj)), xs.drop i = ys → i ≤ xs.length → J i m nx → ItemsRest prog w A E h₀ env target body Q s ws keep ys m nx
  | [], i, m, nx, e, hi, hJ => by
    refine ItemsRest.zero fun h tk F N => done h tk m nx ?_ F N
    have : xs.length ≤ i := by
      have := congrArg List.length e
      rw [List.length_drop, List.length_nil] at this
      omega
    rw [Nat.le_antisymm this hi]
    exact hJ
  | a :: r, i, m, nx, e, hi, hJ => by
    intro v h tk ha F
    have hlt : i < xs.length := by
      have := congrArg List.length e
      rw [List.length_drop, List.length_cons] at this
      omega
    have hx : xs[i]? = some a := by
      have := congrArg (fun l => l[0]?) e
      rw [List.getElem?_drop] at this
      simpa using this
    have hr : xs.drop (i + 1) = r := by
      have := congrArg List.tail e
      rw [List.tail_drop] at this
      simpa using this
    refine allObj_mono (fun its hk' N => ?_) (turn i a m nx v h tk hx hJ ha F)
    refine wpAny_mono (hk' N) (fun _ s₂ h₂ => wpAny_mono h₂ (fun f s₃ h₃ => unrPost_mono (fun m' n' hj => ?_) h₃) fun _ _ x => x) fun _ _ x => x
    exact ⟨hk _ _ _ hj, jitems J hk turn done r (i + 1) m' n' hr hlt hj⟩
theorem jFor_turns {iter : Expr} {pos : Pos} {m : Str → Option Value} (F : Fr h₀ env.locals s.heap m)
    (h : wpAny (model prog w) A (eval iter env) (fun xv s₁ => wpAny (model prog w) A (pyIter xv) (fun it s₂ => TurnsAt prog w A h₀ env target body Q (fun _ _ => False) it s₂) (fun _ _ => False) s₁) (fun _ _ => False) s)
    (hs : ∀ x, foldedSetIterable iter env x = pure x := by intro _; rfl) :
    wpAny (model prog w) A (exec (.For target iter body [] pos) env) Q (fun _ _ => False) s :=
  For_turns F h hs (fun _ _ x => x.elim)
end

end
section

local macro_rules | `(tactic| walk_at "getMethod ref") => `(tactic| (k_here; k_dflt (first
  | ((with_reducible show wpAny _ _ (getMethod (Value.ref _) (Str.ofString "setdefault") _) _ _ _); refine kob_method (knd := PySem.strKind _ _) PySem.F.slot_dict_setdefault PySem.F.type_dict_setdefault (by k_asm) (by k_mem) (by k_asm) ?_)
  | ((with_reducible show wpAny _ _ (getMethod (Value.ref _) (Str.ofString "items") _) _ _ _); refine kob_method (knd := PySem.strKind _ _) PySem.F.slot_dict_items PySem.F.type_dict_items (by k_asm) (by k_mem) (by k_asm) ?_)
  | ((with_reducible show wpAny _ _ (getMethod (Value.ref _) (Str.ofString "get") _) _ _ _); refine kdg_method (knd := PySem.strKind _ _) (by k_asm) (by k_mem) (by k_asm) ?_)
  | ((with_reducible show wpAny _ _ (getMethod (Value.ref _) (Str.ofString "get") _) _ _ _); refine kdg_method (knd := boolKind _ _) (by k_asm) (by k_mem) (by k_asm) ?_))))
local macro_rules | `(tactic| walk_at "call builtin:dict.get") => `(tactic| (k_here; k_dflt (first
  | ((with_reducible show wpAny _ _ (call (Value.builtin "dict.get") [Value.ref _, Value.str _ _]) _ _ _); refine kdg_get1 (knd := PySem.strKind _ _) (by k_asm) (by k_mem) (by k_asm) (by k_asm) (strKind_is _ _ _ _) _ (by assumption) ?_)
  | ((with_reducible show wpAny _ _ (call (Value.builtin "dict.get") [Value.ref _, Value.str _ _, _]) _ _ _); refine kdg_get2 (knd := PySem.strKind _ _) (by k_asm) (by k_mem) (by k_asm) (by k_asm) (strKind_is _ _ _ _) _ (by assumption) ?_)
  | ((with_reducible show wpAny _ _ (call (Value.builtin "dict.get") [Value.ref _, Value.bool _, _]) _ _ _); refine kdg_get2 (knd := boolKind _ _) (by k_asm) (by k_mem) (by k_asm) (by k_asm) (boolKind_is _ _ _) _ (by first | assumption | rfl) ?_)); (try dsimp only [Option.getD])))
set_option maxRecDepth 100000 in
set_option maxHeartbeats 8000000 in
theorem pft_spec {w : World} {mean : ExcName → Option Value} {mg mb : Str → Option Value}
    {dp un : Nat} {gd : Option (List Code)} {cn : Str} {cs : Scope} {a : Addr} {ccd : Value} {cl : List (Str × Addr)} {outer : List Env} {A₀ : Around} {base h₀ : Heap} {L : Addr} {m : Str → Option Value} {R : List (Addr × Obj)} {s : Shared}
    {Q E : Value → Shared → Prop} {clu dc pd : Addr} {nc : Nat} {tc tk : Tok} {po : Obj} {hc : Int} {ckv : List (Str × Value)} {t : Str} {x : Option Value}
    (B : Below A₀ base outer h₀) (F : Fr h₀ L s.heap m) (X : (KK w.params).In h₀) (N : News h₀ L s.heap R)
    (T : Top VV (looseW VV [Str.ofString "ConsumerProtocolSubscription", Str.ofString "RangePartitionAssignor"]) mean mg mb h₀)
    (hk : cs.kind = .function) (hclu : (clu, instObj 122 dc) ∈ R) (hdc : (dc, dictOf [⟨hc, .str (Str.ofString "_partitions") tc, .ref pd⟩] nc) ∈ R) (hpd : (pd, po) ∈ R) (hpo : po.IsDictOf (PySem.strKind PySem.Challenge.rw_je0013_01.row.prog w) ckv) (hlo : (pd == sysModules) = false)
    (hx : valueAt ckv t = x) (hd : dp + 2 < recursionLimit) (hu : un + 16 < cLine)
    (ret : ∀ (h' : Heap) (tk' : Nat), Fr h₀ L h' m → News h₀ L h' R → Q (x.getD .none) { s with heap := h', toks := tk' }) :
    wpAny (model PySem.Challenge.rw_je0013_01.row.prog w) (ktrTop dp un gd cn cs L a ccd cl outer) (call (.ref 119) [.ref clu, .str t tk]) Q E s := by
  revert X; k_fill; intro X
  refine wpAny_call ?_
  k_dflt ktr_enter
  rename_i g1 L1 h1' FG F1 N1 B1 X1 T1
  refine wpAny_noRaise ?_
  rcases x with _ | x
  · k_steps
    (rename Fr h₀ L _ m => kF); (rename News h₀ L _ _ => kN)
    exact ret _ _ kF kN
  · k_steps
    (rename Fr h₀ L _ m => kF); (rename News h₀ L _ _ => kN)
    exact ret _ _ kF kN

end
section
section
variable {prog : Program} {w : World} {A : Around} {E : Value → Shared → Prop} {s : Shared} {h₀ : Heap} {L : Addr} {m : Str → Option Value} {news : List (Addr × Obj)}
end

end
section
theorem datAll_drop {Z : List (Addr × Obj)} : ∀ {vs : List Value} {ds : List Dat} (n : Nat), DatAll Z vs ds → DatAll Z (vs.drop n) (ds.drop n)
  | _, _, 0, h => h
  | [], _, n + 1, h => by cases h; exact .nil
  | _ :: _, _, n + 1, h => by
    cases h with
    | cons _ h => exact datAll_drop n h
theorem datAll_take {Z : List (Addr × Obj)} : ∀ {vs : List Value} {ds : List Dat} (n : Nat), DatAll Z vs ds → DatAll Z (vs.take n) (ds.take n)
  | _, _, 0, h => by simp only [List.take_zero]; exact .nil
  | [], _, n + 1, h => by cases h; exact .nil
  | _ :: _, _, n + 1, h => by
    cases h with
    | cons h1 h => exact .cons h1 (datAll_take n h)
theorem rows_name {ms : List Mem} {t : Str} {r : Row} (h : r ∈ rowsOf ms t) : r.2 ∈ ms.map (·.name) := by
  obtain ⟨mm, hm, hr⟩ := List.mem_flatMap.mp h
  obtain ⟨x, _, rfl⟩ := List.mem_map.mp hr
  exact List.mem_map.mpr ⟨mm, hm, rfl⟩
theorem ord_perm {ms1 ms2 : List Mem} {t : Str} (h1s : ∀ mm ∈ ms1, ∃ g, mm.own = some g) (h5 : (rowsOf ms1 t).length + (rowsOf ms2 t).length ≤ 5) : (ordT ms1 ms2 t).Perm (rowsOf ms1 t ++ rowsOf ms2 t) := by
  unfold ordT ordOf
  refine List.Perm.append ?_ (jsrt_perm (ltK_ok _) (by omega))
  have e := (jsrt_perm ltP_ok (l := (rowsOf ms1 t).map unst) (by rw [List.length_map]; omega)).map stat
  rw [unst_stat (rows_own (P := fun o => ∃ g, o = some g) h1s (t := t))] at e
  exact e
theorem ord_name {ms1 ms2 : List Mem} {t : Str} (h1s : ∀ mm ∈ ms1, ∃ g, mm.own = some g) (h5 : (rowsOf ms1 t).length + (rowsOf ms2 t).length ≤ 5) {x : Str} (h : x ∈ ordN ms1 ms2 t) : x ∈ (ms1 ++ ms2).map (·.name) := by
  obtain ⟨r, hr, rfl⟩ := List.mem_map.mp h
  have := (ord_perm h1s h5).mem_iff.mp hr
  rw [List.map_append]
  rcases List.mem_append.mp this with h | h
  · exact List.mem_append_left _ (rows_name h)
  · exact List.mem_append_right _ (rows_name h)
theorem piece_name {cln : List (Str × List Int)} {ord : List Str} {t x : Str} {j : Nat} (h : pieceOf cln ord t x j ≠ []) : x ∈ ord := by
  unfold pieceOf at h
  split at h
  · rename_i ns k _ hk
    exact List.mem_of_getElem? (idxOf_lt hk)
  · exact absurd rfl h
theorem got_name {cln : List (Str × List Int)} {ms1 ms2 : List Mem} {ts : List Str} {x : Str} (h : gotOf cln ms1 ms2 ts x ≠ []) : ∃ t ∈ ts, x ∈ ordN ms1 ms2 t := by
  obtain ⟨p, hp⟩ := List.exists_mem_of_ne_nil _ h
  obtain ⟨t, ht, hp⟩ := List.mem_flatMap.mp hp
  exact ⟨t, ht, piece_name (List.ne_nil_of_mem hp)⟩
theorem piece_self {cln : List (Str × List Int)} {ord : List Str} (hn : ord.Nodup) {t x : Str} {j : Nat} (h : ord[j]? = some x) : pieceOf cln ord t x j = [] := by
  unfold pieceOf
  rw [idxOf_at hn h]
  split
  · rename_i k _ hk
    cases hk
    simp
  · rfl
section
variable {prog : Program} {w : World} {F F' : Str → List (Str × List Int)} {nm t0 : Str} {pc : List Int}
end

end
section
abbrev dPair (p : Str × List Int) : Dat := .tuple [.str p.1, .list (p.2.map Dat.int)]
abbrev dTK (p : Str × Int) : Dat := .tuple [.str p.1, .int p.2]
def flatP (prs : List (Str × List Int)) : List (Str × Int) := prs.flatMap fun p => p.2.map fun k => (p.1, k)
/-- what a member is told -/
inductive ResAt (news : List (Addr × Obj)) (v : Value) (prs : List (Str × List Int)) : Prop
  | mk (x dx h1 h2 h3 t1 t2 t3 tv ap tu n)
    (x0 : v = .ref x)
    (x1 : (x, instObj 66 dx) ∈ news)
    (x2 : (dx, dictOf [⟨h1, .str (Str.ofString "version") t1, .int 0 tv⟩, ⟨h2, .str (Str.ofString "assigned_partitions") t2, .ref ap⟩, ⟨h3, .str (Str.ofString "user_data") t3, .bytes #[] tu⟩] n) ∈ news)
    (x3 : DatIn news (.ref ap) (.list (prs.map dPair))) : ResAt news v prs
end
section
section
variable {prog : Program} {w : World} {A : Around} {E : Value → Shared → Prop} {s : Shared} {h₀ : Heap} {L : Addr} {m : Str → Option Value} {news : List (Addr × Obj)}
end
def toldOf (prs : List (Str × List Int)) : List (Str × List Int) := (jsrt ltS (prs.map (·.1))).map fun t => (t, (lookT prs t).getD [])
theorem ResAt.mono {Z Z' : List (Addr × Obj)} {v : Value} {prs : List (Str × List Int)} (h : ResAt Z v prs) (hs : ∀ p ∈ Z, p ∈ Z') : ResAt Z' v prs := by
  obtain ⟨x, dx, h1, h2, h3, t1, t2, t3, tv, ap, tu, n, e, a, b, c⟩ := h
  exact ⟨x, dx, h1, h2, h3, t1, t2, t3, tv, ap, tu, n, e, hs _ a, hs _ b, c.mono hs⟩

end
section
local macro_rules | `(tactic| k_lt $h) => `(tactic| ((have hR' := $h); (repeat replace hR' := (List.forall_mem_cons.mp hR').2); (try replace hR' := jltne hR'); (replace $h := allLt_of $h); (try simp only [AllLt, and_true] at $h:ident)))

set_option maxRecDepth 100000 in
set_option maxHeartbeats 8000000 in
theorem cpa_spec {w : World} {mean : ExcName → Option Value} {mg mb : Str → Option Value}
    {dp un : Nat} {gd : Option (List Code)} {cn : Str} {cs : Scope} {a : Addr} {ccd : Value} {cl : List (Str × Addr)} {outer : List Env} {A₀ : Around} {base h₀ : Heap} {L : Addr} {m : Str → Option Value} {R : List (Addr × Obj)} {s : Shared}
    {Q E : Value → Shared → Prop} {ap : Addr} {tv tu : Tok}
    (B : Below A₀ base outer h₀) (F : Fr h₀ L s.heap m) (X : (KK w.params).In h₀) (N : News h₀ L s.heap R)
    (T : Top VV (looseW VV [Str.ofString "ConsumerProtocolSubscription", Str.ofString "RangePartitionAssignor"]) mean mg mb h₀)
    (hk : cs.kind = .function) (hd : dp + 2 < recursionLimit) (hu : un + 16 < cLine)
    (ret : ∀ (x dx : Addr) (h1 h2 h3 : Int) (t1 t2 t3 tv' tu' : Tok) (n : Nat) (h' : Heap) (tk' : Nat), Fr h₀ L h' m → News h₀ L h' ((x, instObj 66 dx) :: (dx, dictOf [⟨h1, .str (Str.ofString "version") t1, .int 0 tv'⟩, ⟨h2, .str (Str.ofString "assigned_partitions") t2, .ref ap⟩, ⟨h3, .str (Str.ofString "user_data") t3, .bytes #[] tu'⟩] n) :: R) → (∀ p ∈ R, p.1 < dx) → @LT.lt Nat instLTNat dx x → Q (.ref x) { s with heap := h', toks := tk' }) :
    wpAny (model PySem.Challenge.rw_je0013_01.row.prog w) (ktrTop dp un gd cn cs L a ccd cl outer) (call (.ref 66) [.int 0 tv, .ref ap, .bytes #[] tu]) Q E s := by
  revert X; k_fill; intro X
  k_dflt (refine' call_cls ?k1 ?k2 ?k3 ?k4 ?k5 ?k6 ?_; (case k1 => k_asm); (case k2 => k_asm); (case k3 => k_asm); (case k4 => k_is); (case k5 => k_is); (case k6 => k_is); k_whole; intro x' d' h' F' N' l1 l2)
  have l1' := l1
  have l2' : @LT.lt Nat instLTNat d' x' := l2
  k_lt l1
  k_lt2 l2
  k_dflt ktr_enter
  k_steps
  (rename Fr h₀ L _ m => kF); (rename News h₀ L _ _ => kN)
  exact ret _ _ _ _ _ _ _ _ _ _ _ _ _ kF kN l1' l2'

end
section
local macro_rules | `(tactic| k_all) => `(tactic| assumption)
set_option maxRecDepth 100000 in
set_option maxHeartbeats 8000000 in
theorem next_spec {w : World} {mean : ExcName → Option Value} {mg mb : Str → Option Value}
    {dp un : Nat} {gd : Option (List Code)} {cn : Str} {cs : Scope} {a : Addr} {ccd : Value} {cl : List (Str × Addr)} {outer : List Env} {A₀ : Around} {base h₀ : Heap} {L : Addr} {m : Str → Option Value} {rest : List (Addr × Obj)} {s : Shared}
    {Q E : Value → Shared → Prop} {hand sc : Addr} {k : Int} {tk tm : Tok} {n : Nat} {vs : List Value} {ns : List Int} {many : Int}
    (B : Below A₀ base outer h₀) (F : Fr h₀ L s.heap m) (X : (KK w.params).In h₀) (N : News h₀ L s.heap ((hand, listOf #[.ref sc, .int k tk] n) :: rest))
    (T : Top VV (looseW VV [Str.ofString "ConsumerProtocolSubscription", Str.ofString "RangePartitionAssignor"]) mean mg mb h₀)
    (hk : cs.kind = .function) (hoff : ∀ p ∈ rest, p.1 ≠ hand) (hsc : h₀.IsList sc vs.toArray) (hi : IntsAre vs ns) (hlen : ns.length ≤ 63)
    (hm1 : 0 < many) (hm2 : many < 100) (hk0 : 0 ≤ k) (hk1 : k < 1000) (hd : dp + 1 < recursionLimit) (hu : un + 8 < cLine)
    (ret : ∀ (r : Int) (t t' : Tok) (n' : Nat) (h' : Heap) (tk' : Nat), 0 ≤ r → r < many → Fr h₀ L h' m → News h₀ L h' ((hand, listOf #[.ref sc, .int (k+1) t'] n') :: rest) → Q (.int r t) { s with heap := h', toks := tk' }) :
    wpAny (model PySem.Challenge.rw_je0013_01.row.prog w) (ktrTop dp un gd cn cs L a ccd cl outer) (call (.ref 189) [.ref hand, .int many tm]) Q E s := by
  revert X; k_fill; intro X
  refine wpAny_call ?_
  k_dflt ktr_enter
  rename_i g1 L1 h1 FG F1 N1 B1 X1 T1
  have hsc1 := hsc.at fun o e => FG.keep _ _ e
  k_steps
  all_goals (
    (rename Fr h₀ L _ m => kF); (rename News h₀ L _ _ => kN)
    exact ret _ _ _ _ _ _ (Int.fmod_nonneg_of_pos _ hm1) (Int.fmod_lt_of_pos _ hm1) kF kN)
theorem next_callU {w : World} {mean : ExcName → Option Value} {mg mb : Str → Option Value}
    {dp un : Nat} {gd : Option (List Code)} {cn : Str} {cs : Scope} {a : Addr} {ccd : Value} {cl : List (Str × Addr)} {outer : List Env} {A₀ : Around} {base h₀ : Heap} {L : Addr} {m : Str → Option Value} {news : List (Addr × Obj)} {g : Obj → List (Addr × Obj)} {s : Shared}
    {Q E : Value → Shared → Prop} {hand sc : Addr} {k : Int} {tk tm : Tok} {n : Nat} {vs : List Value} {ns : List Int} {many : Int}
    (B : Below A₀ base outer h₀) (F : Fr h₀ L s.heap m) (X : (KK w.params).In h₀) (N : News h₀ L s.heap news) (U : UpdF hand (listOf #[.ref sc, .int k tk] n) news g)
    (T : Top VV (looseW VV [Str.ofString "ConsumerProtocolSubscription", Str.ofString "RangePartitionAssignor"]) mean mg mb h₀)
    (hk : cs.kind = .function) (hsc : h₀.IsList sc vs.toArray) (hi : IntsAre vs ns) (hlen : ns.length ≤ 63)
    (hm1 : 0 < many) (hm2 : many < 100) (hk0 : 0 ≤ k) (hk1 : k < 1000) (hd : dp + 1 < recursionLimit) (hu : un + 8 < cLine)
    (ret : ∀ (r : Int) (t t' : Tok) (n' : Nat) (h' : Heap) (tk' : Nat), 0 ≤ r → r < many → Fr h₀ L h' m → News h₀ L h' (g (listOf #[.ref sc, .int (k+1) t'] n')) → Q (.int r t) { s with heap := h', toks := tk' }) :
    wpAny (model PySem.Challenge.rw_je0013_01.row.prog w) (ktrTop dp un gd cn cs L a ccd cl outer) (call (.ref 189) [.ref hand, .int many tm]) Q E s := by
  obtain ⟨R, h1, h2, h3⟩ := updF_perm U
  exact next_spec B F X (jsub N fun p hp => (h2 p).mp hp) T hk h1 hsc hi hlen hm1 hm2 hk0 hk1 hd hu fun r t t' n' h' tk' a b F' N' => ret r t t' n' h' tk' a b F' (jsub N' fun p hp => (h3 _ p).mp hp)

end
section
local macro_rules | `(tactic| k_all) => `(tactic| assumption)
local macro_rules | `(tactic| k_mem) => `(tactic| assumption)
local macro_rules | `(tactic| walk_at "J small") => `(tactic| ((try simp only [List.size_toArray, List.length_append, List.length_cons, List.length_nil, List.length_map]); omega))
local macro_rules | `(tactic| walk_at "call builtin:len") => `(tactic| (k_here; (with_reducible show wpAny _ _ (call (Value.builtin "len") [Value.ref _]) _ _ _); k_dflt (refine' j_len ?N ?m ?b ?_; (case N => k_asm); (case m => k_mem); (case b => walk_at "J small")); intro t' tk'))
local macro_rules | `(tactic| walk_at "truthy ref") => `(tactic| (k_here; (with_reducible show wpAny _ _ (truthy (Value.ref _)) _ _ _); k_dflt (first | (refine' j_truthyC ?N ?m ?b ?_; (case N => k_asm); (case m => k_mem); (case b => walk_at "J small")) | (refine' j_truthyN ?N ?m ?_; (case N => k_asm); (case m => k_mem))); intro tk'))
local macro_rules | `(tactic| walk_at "call type:list") => `(tactic| (k_here; (with_reducible show wpAny _ _ (call (Value.type _) [Value.ref _]) _ _ _); k_dflt (refine' j_copy ?F ?N ?m ?b ?_; (case F => k_asm); (case N => k_asm); (case m => k_mem); (case b => walk_at "J small")); intro D' c' h' F' N' l1; (try k_lt l1); (try k_sweep)))
local macro_rules | `(tactic| walk_at "call builtin:list.pop") => `(tactic| (k_here; (with_reducible show wpAny _ _ (call (Value.builtin _) [Value.ref _, Value.int _ _]) _ _ _); k_dflt (refine' j_popAt ?F ?N ?U ?a ?b ?c ?_; (case F => k_asm); (case N => k_asm); (case U => k_updF); (case a => walk_at "J small"); (case b => walk_at "J small"); (case c => walk_at "J small")); intro p' y' q' n' h' e' F' N'; (try k_sweep)))
local macro_rules | `(tactic| walk_at "exec While Name") => `(tactic| (k_here; refine Stop.out ?_))
local macro_rules | `(tactic| walk_at "J sub") => `(tactic| first
  | exact fun _ h => h
  | exact List.forall_mem_nil _
  | (refine List.forall_mem_cons.mpr ⟨?jA, ?jB⟩; (case jA => k_mem); (case jB => walk_at "J sub"))
  | (refine List.forall_mem_append.mpr ⟨?jA, ?jB⟩; (case jA => walk_at "J sub"); (case jB => walk_at "J sub"))
  | (intro p hp; k_mem))
local macro_rules | `(tactic| walk_at "call ref") => `(tactic| (k_here; (with_reducible show wpAny _ _ (call (Value.ref 189) [Value.ref _, Value.int _ _]) _ _ _); k_dflt (refine' next_callU ?B ?F ?X ?N ?U ?T ?hk ?sc ?i ?l ?m1 ?m2 ?k0 ?k1 ?d ?u ?_; (case B => k_asm); (case F => k_asm); (case X => k_in); (case N => k_asm); (case U => k_updF); (case T => k_asm); (case hk => first | exact rfl | assumption); (case sc => first | assumption | is_list); (case i => assumption); (case l => assumption); (case m1 => walk_at "J small"); (case m2 => walk_at "J small"); (case k0 => walk_at "J small"); (case k1 => walk_at "J small"); (case d => ktr_room); (case u => ktr_units)); intro r' t' t'' n' h' tk' hr0 hr1 F' N'; (try dsimp only at N'); (try k_sweep)))
set_option maxRecDepth 100000 in
set_option maxHeartbeats 8000000 in
theorem mixed_spec {w : World} {mean : ExcName → Option Value} {mg mb : Str → Option Value}
    {dp un : Nat} {gd : Option (List Code)} {cn : Str} {cs : Scope} {a : Addr} {ccd : Value} {cl : List (Str × Addr)} {outer : List Env} {A₀ : Around} {base h₀ : Heap} {L : Addr} {m : Str → Option Value} {R : List (Addr × Obj)} {s : Shared}
    {Q E : Value → Shared → Prop} {hand sc rows : Addr} {k : Int} {tk₀ : Tok} {n nr : Nat} {vs : List Value} {ns : List Int} {us₀ : List Value}
    (B : Below A₀ base outer h₀) (F : Fr h₀ L s.heap m) (X : (KK w.params).In h₀) (N : News h₀ L s.heap ((hand, listOf #[.ref sc, .int k tk₀] n) :: R))
    (T : Top VV (looseW VV [Str.ofString "ConsumerProtocolSubscription", Str.ofString "RangePartitionAssignor"]) mean mg mb h₀)
    (hk : cs.kind = .function) (hoff : ∀ p ∈ R, p.1 ≠ hand) (hsc : h₀.IsList sc vs.toArray) (hi : IntsAre vs ns) (hlen : ns.length ≤ 63)
    (hrows : (rows, listOf us₀.toArray nr) ∈ R) (hus : us₀.length ≤ 60) (hk0 : 0 ≤ k) (hk1 : k < 900) (hd : dp + 2 < recursionLimit) (hu : un + 16 < cLine)
    (ret : ∀ (D : Addr) (fs : List Value) (t' : Tok) (n' nD : Nat) (h' : Heap) (tk' : Nat), fs.Perm us₀ → Fr h₀ L h' m → News h₀ L h' ((D, listOf fs.toArray nD) :: (hand, listOf #[.ref sc, .int (k + us₀.length) t'] n') :: R) → hand < D → (∀ p ∈ R, p.1 < D) → Q (.ref D) { s with heap := h', toks := tk' }) :
    wpAny (model PySem.Challenge.rw_je0013_01.row.prog w) (ktrTop dp un gd cn cs L a ccd cl outer) (call (.ref 196) [.ref hand, .ref rows]) Q E s := by
  revert X; k_fill; intro X
  refine wpAny_call ?_
  k_dflt ktr_enter
  rename_i g1 L1 h1 FG F1 N1 B1 X1 T1
  have hsc1 := hsc.at fun o e => FG.keep _ _ e
  k_steps
  rename_i D1 c1 _ l1 _ _ D2 _ l2 h5 F2 N2
  refine Stop.mk ?_
  refine while_fix (fun n₁ nx => ∃ us fs nu nf t' n', nx = (D2, listOf (List.toArray fs) nf) :: (D1, listOf (List.toArray us) nu) :: (hand, listOf #[.ref sc, .int (k + fs.length) t'] n') :: R ∧ n₁ = us.length ∧ (fs ++ us).Perm us₀) us₀.length F2 N2 ⟨us₀, [], c1, 0, tk₀, n, by simp, rfl, by simp⟩ ?_
  clear F2 N2
  rintro n₁ news₁ h₁ tk₁ F2 N2 ⟨us, fs, nu, nf, t', n', rfl, rfl, hp⟩
  rcases us with _ | ⟨u, us⟩
  · k_steps
    (rename Fr h₀ L _ m => kF); (rename News h₀ L _ _ => kN)
    have hpl := hp.length_eq
    simp only [List.length_append, List.length_nil, Nat.add_zero] at hpl
    rw [hpl] at kN
    exact ret D2 fs _ _ _ _ _ (by simpa using hp) kF (jsub kN (by walk_at "J sub")) l2.2.1 (ltOut l2.2.2)
  · have hpl := hp.length_eq
    simp only [List.length_append, List.length_cons] at hpl
    k_steps
    rename_i p y q _ _ e _ F3 N3
    have e2 : k + (fs.length : Int) + 1 = k + ((fs ++ [y]).length : Int) := by simp only [List.length_append, List.length_cons, List.length_nil]; omega
    rw [List.push_toArray, e2] at N3
    refine ⟨_, _, _, (p ++ q).length, rfl, F3, N3, ?_, p ++ q, fs ++ [y], _, _, _, _, rfl, rfl, ?_⟩
    · have := congrArg List.length e
      simp only [List.length_append, List.length_cons] at this ⊢
      omega
    · rw [e] at hp
      refine List.Perm.trans ?_ hp
      simp only [List.append_assoc, List.singleton_append]
      exact List.Perm.append_left _ List.perm_middle.symm

end
section
local macro_rules | `(tactic| k_lt $h) => `(tactic| ((have hR' := $h); (repeat replace hR' := (List.forall_mem_cons.mp hR').2); (try replace hR' := jltne hR'); (replace $h := allLt_of $h); (try simp only [AllLt, and_true] at $h:ident)))

set_option maxRecDepth 100000 in
set_option maxHeartbeats 8000000 in
theorem clu_spec {w : World} {mean : ExcName → Option Value} {mg mb : Str → Option Value}
    {dp un : Nat} {gd : Option (List Code)} {cn : Str} {cs : Scope} {a : Addr} {ccd : Value} {cl : List (Str × Addr)} {outer : List Env} {A₀ : Around} {base h₀ : Heap} {L : Addr} {m : Str → Option Value} {R : List (Addr × Obj)} {s : Shared}
    {Q E : Value → Shared → Prop} {pd : Addr}
    (B : Below A₀ base outer h₀) (F : Fr h₀ L s.heap m) (X : (KK w.params).In h₀) (N : News h₀ L s.heap R)
    (T : Top VV (looseW VV [Str.ofString "ConsumerProtocolSubscription", Str.ofString "RangePartitionAssignor"]) mean mg mb h₀)
    (hk : cs.kind = .function) (hd : dp + 2 < recursionLimit) (hu : un + 16 < cLine)
    (ret : ∀ (x dx : Addr) (h1 : Int) (t1 : Tok) (n : Nat) (h' : Heap) (tk' : Nat), Fr h₀ L h' m → News h₀ L h' ((x, instObj 122 dx) :: (dx, dictOf [⟨h1, .str (Str.ofString "_partitions") t1, .ref pd⟩] n) :: R) → (∀ p ∈ R, p.1 < dx) → @LT.lt Nat instLTNat dx x → Q (.ref x) { s with heap := h', toks := tk' }) :
    wpAny (model PySem.Challenge.rw_je0013_01.row.prog w) (ktrTop dp un gd cn cs L a ccd cl outer) (call (.ref 122) [.ref pd]) Q E s := by
  revert X; k_fill; intro X
  k_dflt (refine' call_cls ?k1 ?k2 ?k3 ?k4 ?k5 ?k6 ?_; (case k1 => k_asm); (case k2 => k_asm); (case k3 => k_asm); (case k4 => k_is); (case k5 => k_is); (case k6 => k_is); k_whole; intro x' d' h' F' N' l1 l2)
  have l1' := l1
  have l2' : @LT.lt Nat instLTNat d' x' := l2
  k_lt l1
  k_lt2 l2
  k_dflt ktr_enter
  k_steps
  (rename Fr h₀ L _ m => kF); (rename News h₀ L _ _ => kN)
  exact ret _ _ _ _ _ _ _ kF kN l1' l2'
set_option maxRecDepth 100000 in
set_option maxHeartbeats 8000000 in
theorem mem_spec {w : World} {mean : ExcName → Option Value} {mg mb : Str → Option Value}
    {dp un : Nat} {gd : Option (List Code)} {cn : Str} {cs : Scope} {a : Addr} {ccd : Value} {cl : List (Str × Addr)} {outer : List Env} {A₀ : Around} {base h₀ : Heap} {L : Addr} {m : Str → Option Value} {R : List (Addr × Obj)} {s : Shared}
    {Q E : Value → Shared → Prop} {nm : Str} {tn : Tok} {ov : Value} {sub : Addr}
    (B : Below A₀ base outer h₀) (F : Fr h₀ L s.heap m) (X : (KK w.params).In h₀) (N : News h₀ L s.heap R)
    (T : Top VV (looseW VV [Str.ofString "ConsumerProtocolSubscription", Str.ofString "RangePartitionAssignor"]) mean mg mb h₀)
    (hk : cs.kind = .function) (hd : dp + 2 < recursionLimit) (hu : un + 16 < cLine)
    (ret : ∀ (x dx : Addr) (h1 h2 h3 : Int) (t1 t2 t3 : Tok) (n : Nat) (h' : Heap) (tk' : Nat), Fr h₀ L h' m → News h₀ L h' ((x, instObj 87 dx) :: (dx, dictOf [⟨h1, .str (Str.ofString "member_id") t1, .str nm tn⟩, ⟨h2, .str (Str.ofString "group_instance_id") t2, ov⟩, ⟨h3, .str (Str.ofString "metadata") t3, .ref sub⟩] n) :: R) → (∀ p ∈ R, p.1 < dx) → @LT.lt Nat instLTNat dx x → Q (.ref x) { s with heap := h', toks := tk' }) :
    wpAny (model PySem.Challenge.rw_je0013_01.row.prog w) (ktrTop dp un gd cn cs L a ccd cl outer) (call (.ref 87) [.str nm tn, ov, .ref sub]) Q E s := by
  revert X; k_fill; intro X
  k_dflt (refine' call_cls ?k1 ?k2 ?k3 ?k4 ?k5 ?k6 ?_; (case k1 => k_asm); (case k2 => k_asm); (case k3 => k_asm); (case k4 => k_is); (case k5 => k_is); (case k6 => k_is); k_whole; intro x' d' h' F' N' l1 l2)
  have l1' := l1
  have l2' : @LT.lt Nat instLTNat d' x' := l2
  k_lt l1
  k_lt2 l2
  k_dflt ktr_enter
  k_steps
  (rename Fr h₀ L _ m => kF); (rename News h₀ L _ _ => kN)
  exact ret _ _ _ _ _ _ _ _ _ _ _ kF kN l1' l2'
set_option maxRecDepth 100000 in
set_option maxHeartbeats 8000000 in
theorem sub_spec {w : World} {mean : ExcName → Option Value} {mg mb : Str → Option Value}
    {dp un : Nat} {gd : Option (List Code)} {cn : Str} {cs : Scope} {a : Addr} {ccd : Value} {cl : List (Str × Addr)} {outer : List Env} {A₀ : Around} {base h₀ : Heap} {L : Addr} {m : Str → Option Value} {R : List (Addr × Obj)} {s : Shared}
    {Q E : Value → Shared → Prop} {tv tu : Tok} {tl : Addr}
    (B : Below A₀ base outer h₀) (F : Fr h₀ L s.heap m) (X : (KK w.params).In h₀) (N : News h₀ L s.heap R)
    (T : Top VV (looseW VV [Str.ofString "ConsumerProtocolSubscription", Str.ofString "RangePartitionAssignor"]) mean mg mb h₀)
    (hk : cs.kind = .function) (hd : dp + 2 < recursionLimit) (hu : un + 16 < cLine)
    (ret : ∀ (x dx : Addr) (h1 h2 h3 h4 h5 : Int) (t1 t2 t3 t4 t5 : Tok) (v1 v3 v4 v5 : Value) (n : Nat) (h' : Heap) (tk' : Nat), Fr h₀ L h' m → News h₀ L h' ((x, instObj 40 dx) :: (dx, dictOf [⟨h1, .str (Str.ofString "version") t1, v1⟩, ⟨h2, .str (Str.ofString "topics") t2, .ref tl⟩, ⟨h3, .str (Str.ofString "user_data") t3, v3⟩, ⟨h4, .str (Str.ofString "owned_partitions") t4, v4⟩, ⟨h5, .str (Str.ofString "generation_id") t5, v5⟩] n) :: R) → (∀ p ∈ R, p.1 < dx) → @LT.lt Nat instLTNat dx x → Q (.ref x) { s with heap := h', toks := tk' }) :
    wpAny (model PySem.Challenge.rw_je0013_01.row.prog w) (ktrTop dp un gd cn cs L a ccd cl outer) (call (.ref 40) [.int 0 tv, .ref tl, .bytes #[] tu]) Q E s := by
  revert X; k_fill; intro X
  k_dflt (refine' call_cls ?k1 ?k2 ?k3 ?k4 ?k5 ?k6 ?_; (case k1 => k_asm); (case k2 => k_asm); (case k3 => k_asm); (case k4 => k_is); (case k5 => k_is); (case k6 => k_is); k_whole; intro x' d' h' F' N' l1 l2)
  have l1' := l1
  have l2' : @LT.lt Nat instLTNat d' x' := l2
  k_lt l1
  k_lt2 l2
  k_dflt (refine' code_def ?k1 ?k2 ?k3 ?k4 ?k5 ?kA ?kF ?kK ?k6 ?k7 ?k8 ?k9 ?kB ?_ ?c2 ?c3 ?c4 ?c5; (case kA => exact rfl); (case kF => exact rfl); (case kK => assumption); (case k1 => k_asm); (case k2 => k_asm); (case k3 => k_asm); (case k4 => k_asm); (case k5 => k_asm); (case k6 => k_is); (case k7 => k_is); (case k8 => ktr_room); (case k9 => exact binds_K (by k_in) rfl (by k_is) rfl rfl rfl); (case c5 => decide); (case kB => exact locs rfl); (case c2 => exact rfl); (case c3 => exact rfl); (case c4 => exact rfl); k_whole; intro g' L' h' FG' F' N' B' X' T'; (try dsimp only); (try k_fold))
  k_steps
  (rename Fr h₀ L _ m => kF); (rename News h₀ L _ _ => kN)
  exact ret _ _ _ _ _ _ _ _ _ _ _ _ _ _ _ _ _ _ _ kF kN l1' l2'

end
section
abbrev PRG : Program := PySem.Challenge.rw_je0013_01.row.prog
abbrev Led := List (Addr × Obj)
/-- what stays fixed in a frame of the law -/
structure Cx where
  w : World
  A : Around
  h₀ : Heap
  L : Addr
  hand : Addr
  sc : Addr
def NewsH (c : Cx) (h : Heap) (k : Int) (Z : Led) : Prop :=
  (∃ t n, News c.h₀ c.L h ((c.hand, listOf #[.ref c.sc, .int k t] n) :: Z)) ∧ ∀ p ∈ Z, p.1 ≠ c.hand
structure St (c : Cx) (m : Str → Option Value) (Z : Led) (k : Int) (s : Shared) : Prop where
  F : Fr c.h₀ c.L s.heap m
  N : NewsH c s.heap k Z
  k0 : 0 ≤ k
def Fresh (V Z : Led) : Prop := ∀ p ∈ V, ∀ q ∈ Z, q.1 ≠ p.1
/-- t goes through without touching the ledger Z, with at most b draws, and hands on a value of which P holds in the pool -/
def Ev {α : Type} (c : Cx) (R Y : Led) (m : Str → Option Value) (b : Nat) (t : Sem α) (P : Led → α → Prop) : Prop :=
  ∀ (s : Shared) (Z U : Led) (k : Int) (Q : α → Shared → Prop), (∀ p ∈ R, p ∈ Z) → (∀ p ∈ Y, p ∈ U) → (∀ p ∈ U, p ∈ Z) → St c m Z k s → k + b ≤ 890 →
    (∀ v V k' h' tk', k' ≤ k + b → St c m (V ++ Z) k' { s with heap := h', toks := tk' } → Fresh V Z → P (V ++ U) v → Q v { s with heap := h', toks := tk' }) →
    wpAny (model PRG c.w) c.A t Q (fun _ _ => False) s
abbrev IsD (d : Dat) : Led → Value → Prop := fun Y v => DatIn Y v d
def Mono {α : Type} (P : Led → α → Prop) : Prop := ∀ Y Y' v, (∀ p ∈ Y, p ∈ Y') → P Y v → P Y' v
theorem monoD (d : Dat) : Mono (IsD d) := fun _ _ _ h x => x.mono h
section
variable {α β : Type} {c : Cx} {R Y : Led} {m : Str → Option Value}
theorem Fresh.nil {Z : Led} : Fresh [] Z := fun p hp => absurd hp List.not_mem_nil
theorem Fresh.app {V W Z : Led} (h1 : Fresh V Z) (h2 : Fresh W (V ++ Z)) : Fresh (W ++ V) Z := fun p hp q hq => by
  rcases List.mem_append.mp hp with h | h
  · exact h2 p h q (List.mem_append_right _ hq)
  · exact h1 p h q hq
theorem St.toks {Z : Led} {k : Int} {s : Shared} {tk : Nat} (S : St c m Z k s) : St c m Z k { s with toks := tk } := ⟨S.F, S.N, S.k0⟩
theorem St.self {Z : Led} {k : Int} {s : Shared} {tk : Nat} (S : St c m Z k s) : St c m ([] ++ Z) k { s with heap := s.heap, toks := tk } := ⟨S.F, S.N, S.k0⟩
theorem St.sub {Z Z' : Led} {k : Int} {s : Shared} (S : St c m Z k s) (h : ∀ p ∈ Z', p ∈ Z) : St c m Z' k s := by
  obtain ⟨⟨t, n, N⟩, o⟩ := S.N
  exact ⟨S.F, ⟨⟨t, n, jsub N fun p hp => (List.mem_cons.mp hp).elim (fun e => e ▸ List.mem_cons_self) fun q => List.mem_cons_of_mem _ (h p q)⟩, fun p hp => o p (h p hp)⟩, S.k0⟩
theorem St.news {Z : Led} {k : Int} {s : Shared} (S : St c m Z k s) : News c.h₀ c.L s.heap Z := by
  obtain ⟨⟨t, n, N⟩, o⟩ := S.N
  exact jsub N fun p hp => List.mem_cons_of_mem _ hp
/-- new objects on top -/
theorem St.push {Z V : Led} {k : Int} {s : Shared} {h' : Heap} {tk' : Nat} {hd : Addr × Obj} (S : St c m Z k s) (F' : Fr c.h₀ c.L h' m) (hh : ∃ t n, hd = (c.hand, listOf #[.ref c.sc, .int k t] n)) (N' : News c.h₀ c.L h' (V ++ hd :: Z))
    (lt : ∀ p ∈ V, ∀ q ∈ hd :: Z, q.1 ≠ p.1) : St c m (V ++ Z) k { s with heap := h', toks := tk' } ∧ Fresh V Z := by
  obtain ⟨t, n, rfl⟩ := hh
  refine ⟨⟨F', ⟨⟨t, n, jsub N' fun p hp => ?_⟩, fun p hp => ?_⟩, S.k0⟩, fun p hp q hq => lt p hp q (List.mem_cons_of_mem _ hq)⟩
  · rcases List.mem_cons.mp hp with rfl | hp
    · exact List.mem_append_right _ List.mem_cons_self
    · rcases List.mem_append.mp hp with h | h
      · exact List.mem_append_left _ h
      · exact List.mem_append_right _ (List.mem_cons_of_mem _ h)
  · rcases List.mem_append.mp hp with h | h
    · exact (lt p h _ List.mem_cons_self).symm
    · exact S.N.2 p h
theorem Ev.imp {b : Nat} {t : Sem α} {P P' : Led → α → Prop} (h : Ev c R Y m b t P) (hi : ∀ Y v, P Y v → P' Y v) : Ev c R Y m b t P' := by
  intro s Z U k Q hR hY hU S hb ret
  exact h s Z U k Q hR hY hU S hb fun v V k' h' tk' a b c d => ret v V k' h' tk' a b c (hi _ _ d)
theorem Ev.more {b b' : Nat} {t : Sem α} {P : Led → α → Prop} (h : Ev c R Y m b t P) (hb : b ≤ b') : Ev c R Y m b' t P := by
  intro s Z U k Q hR hY hU S hk ret
  exact h s Z U k Q hR hY hU S (by omega) fun v V k' h' tk' a => ret v V k' h' tk' (by omega)
theorem Ev.sub {R' Y' : Led} {b : Nat} {t : Sem α} {P : Led → α → Prop} (h : Ev c R Y m b t P) (hR' : ∀ p ∈ R, p ∈ R') (hY' : ∀ p ∈ Y, p ∈ Y') : Ev c R' Y' m b t P := by
  intro s Z U k Q hR hY hU S hk ret
  exact h s Z U k Q (fun p hp => hR p (hR' p hp)) (fun p hp => hY p (hY' p hp)) hU S hk ret
/-- one after the other, as the library's rules ask it -/
theorem Ev.seq {b1 b2 : Nat} {t : Sem α} {u : α → Sem β} {P1 : Led → α → Prop} {P : Led → β → Prop} {s : Shared} {Z U : Led} {k : Int} {Q : β → Shared → Prop}
    (h1 : Ev c R Y m b1 t P1) (h2 : ∀ (v : α) (Y' : Led), (∀ p ∈ Y, p ∈ Y') → P1 Y' v → Ev c R Y' m b2 (u v) P) (hR : ∀ p ∈ R, p ∈ Z) (hY : ∀ p ∈ Y, p ∈ U) (hU : ∀ p ∈ U, p ∈ Z) (S : St c m Z k s) (hk : k + (b1 + b2 : Nat) ≤ 890)
    (ret : ∀ v V k' h' tk', k' ≤ k + (b1 + b2 : Nat) → St c m (V ++ Z) k' { s with heap := h', toks := tk' } → Fresh V Z → P (V ++ U) v → Q v { s with heap := h', toks := tk' }) :
    wpAny (model PRG c.w) c.A t (fun v s₁ => wpAny (model PRG c.w) c.A (u v) Q (fun _ _ => False) s₁) (fun _ _ => False) s := by
  refine h1 s Z U k _ hR hY hU S (by omega) fun v V k1 hp1 tk1 hk1 S1 f1 p1 => ?_
  refine h2 v (V ++ U) (fun p hp => List.mem_append_right _ (hY p hp)) p1 _ (V ++ Z) (V ++ U) k1 Q (fun p hp => List.mem_append_right _ (hR p hp)) (fun _ h => h)
    (fun p hp => (List.mem_append.mp hp).elim (List.mem_append_left _) fun h => List.mem_append_right _ (hU p h)) S1 (by omega) fun v2 V2 k2 hp2 tk2 hk2 S2 f2 p2 => ?_
  refine ret v2 (V2 ++ V) k2 hp2 tk2 (by omega) ?_ (f1.app f2) ?_
  · rw [List.append_assoc]; exact S2
  · rw [List.append_assoc]; exact p2
/-- names -/
def Rd (c : Cx) (R : Led) (m : Str → Option Value) (env : Env) (x : Str) (v : Value) : Prop :=
  ∀ (s : Shared) (Z : Led) (k : Int) (Q : Value → Shared → Prop) (pos : Pos), (∀ p ∈ R, p ∈ Z) → St c m Z k s → Q v s → wpAny (model PRG c.w) c.A (eval (.Name x pos) env) Q (fun _ _ => False) s
variable {env : Env}
theorem ev_name {x : Str} {v : Value} {pos : Pos} {P : Led → Value → Prop} (r : Rd c R m env x v) (hP : Mono P) (hv : P Y v) : Ev c R Y m 0 (eval (.Name x pos) env) P := by
  intro s Z U k Q hR hY _ S _ ret
  exact r s Z k Q pos hR S (ret v [] k s.heap s.toks (by omega) S.self Fresh.nil (hP _ _ _ (fun p hp => hY p hp) hv))
theorem ev_nameD {x : Str} {v : Value} {pos : Pos} {d : Dat} (r : Rd c R m env x v) (hv : DatIn Y v d) : Ev c R Y m 0 (eval (.Name x pos) env) (IsD d) := ev_name r (monoD d) hv
theorem ev_nameV {x : Str} {v : Value} {pos : Pos} (r : Rd c R m env x v) : Ev c R Y m 0 (eval (.Name x pos) env) (fun _ u => u = v) := ev_name r (fun _ _ _ _ h => h) rfl
theorem ev_str {x : Str} {kn : Nat} {pos : Pos} : Ev c R Y m 0 (eval (.Constant (.str x) kn pos) env) (IsD (.str x)) := by
  intro s Z U k Q _ _ _ S _ ret
  exact wpAny_Constant_str (ret _ [] k s.heap _ (by omega) S.self Fresh.nil (.str _ _))
theorem ev_int {i : Int} {kn : Nat} {pos : Pos} : Ev c R Y m 0 (eval (.Constant (.int i) kn pos) env) (IsD (.int i)) := by
  intro s Z U k Q _ _ _ S _ ret
  exact wpAny_Constant_int (ret _ [] k s.heap _ (by omega) S.self Fresh.nil (.int _ _))
theorem ev_none {kn : Nat} {pos : Pos} : Ev c R Y m 0 (eval (.Constant .none kn pos) env) (IsD .none) := by
  intro s Z U k Q _ _ _ S _ ret
  exact wpAny_Constant_none (ret _ [] k s.heap _ (by omega) S.self Fresh.nil .none)
/-- two operands -/
theorem ev_bin {l r : Expr} {op : Operator} {pos : Pos} {b1 b2 : Nat} {d1 d2 : Dat} {P : Led → Value → Prop} (h1 : Ev c R Y m b1 (eval l env) (IsD d1)) (h2 : Ev c R Y m b2 (eval r env) (IsD d2))
    (h3 : ∀ v u Y', (∀ p ∈ Y, p ∈ Y') → DatIn Y' v d1 → DatIn Y' u d2 → Ev c R Y' m 0 (binaryOp op v u) P) : Ev c R Y m (b1 + b2) (eval (.BinOp l op r pos) env) P := by
  intro s Z U k Q hR hY hU S hk ret
  refine wpAny_BinOp ?_
  refine h1 s Z U k _ hR hY hU S (by omega) fun v V k1 hp1 tk1 hk1 S1 f1 p1 => ?_
  refine Ev.seq (b1 := b2) (b2 := 0) (Y := V ++ U) (h2.sub (fun _ h => h) fun p hp => List.mem_append_right _ (hY p hp)) (fun u Y' hs p2 => h3 v u Y' (fun p hp => hs p (List.mem_append_right _ (hY p hp))) (p1.mono hs) p2)
    (fun p hp => List.mem_append_right _ (hR p hp)) (fun _ h => h) (fun p hp => (List.mem_append.mp hp).elim (List.mem_append_left _) fun h => List.mem_append_right _ (hU p h)) S1 (by omega) fun v2 V2 k2 hp2 tk2 hk2 S2 f2 p2 => ?_
  refine ret v2 (V2 ++ V) k2 hp2 tk2 (by omega) ?_ (f1.app f2) ?_
  · rw [List.append_assoc]; exact S2
  · rw [List.append_assoc]; exact p2
theorem ev_add {l r : Expr} {pos : Pos} {b1 b2 : Nat} {x y : Int} (h1 : Ev c R Y m b1 (eval l env) (IsD (.int x))) (h2 : Ev c R Y m b2 (eval r env) (IsD (.int y))) : Ev c R Y m (b1 + b2) (eval (.BinOp l .Add r pos) env) (IsD (.int (x + y))) :=
  ev_bin h1 h2 fun v u Y' _ hv hu => by
    cases hv; cases hu
    intro s Z U k Q _ _ _ S _ ret
    exact add_int (ret _ [] k s.heap _ (by omega) S.self Fresh.nil (.int _ _))
theorem ev_sub {l r : Expr} {pos : Pos} {b1 b2 : Nat} {x y : Int} (h1 : Ev c R Y m b1 (eval l env) (IsD (.int x))) (h2 : Ev c R Y m b2 (eval r env) (IsD (.int y))) : Ev c R Y m (b1 + b2) (eval (.BinOp l .Sub r pos) env) (IsD (.int (x - y))) :=
  ev_bin h1 h2 fun v u Y' _ hv hu => by
    cases hv; cases hu
    intro s Z U k Q _ _ _ S _ ret
    exact PyProof.Rows.sub_int (ret _ [] k s.heap _ (by omega) S.self Fresh.nil (.int _ _))
end

end
section
theorem dint {Y : Led} {v : Value} {x : Int} (h : DatIn Y v (.int x)) : ∃ t, v = .int x t := by cases h; exact ⟨_, rfl⟩
theorem dstr {Y : Led} {v : Value} {x : Str} (h : DatIn Y v (.str x)) : ∃ t, v = .str x t := by cases h; exact ⟨_, rfl⟩
theorem dbytes {Y : Led} {v : Value} {x : Array UInt8} (h : DatIn Y v (.bytes x)) : ∃ t, v = .bytes x t := by cases h; exact ⟨_, rfl⟩
theorem dlist {Y : Led} {v : Value} {ds : List Dat} (h : DatIn Y v (.list ds)) : ∃ a vs n, v = .ref a ∧ (a, listOf (List.toArray vs) n) ∈ Y ∧ DatAll Y vs ds := by
  cases h with
  | list h1 h2 => exact ⟨_, _, _, rfl, h1, h2⟩
theorem dtup {Y : Led} {v : Value} {ds : List Dat} (h : DatIn Y v (.tuple ds)) : ∃ a vs n, v = .ref a ∧ (a, ({ cls := .type "tuple", data := .seq (List.toArray vs) n } : Obj)) ∈ Y ∧ DatAll Y vs ds := by
  cases h with
  | tuple h1 h2 => exact ⟨_, _, _, rfl, h1, h2⟩
section
variable {α β : Type} {c : Cx} {R Y : Led} {m : Str → Option Value} {env : Env}
/-- a step that makes nothing -/
theorem Ev.now {v : α} {t : Sem α} {P : Led → α → Prop} (hP : Mono P) (hv : P Y v)
    (h : ∀ (s : Shared) (Z : Led) (k : Int) (Q : α → Shared → Prop), (∀ p ∈ Y, p ∈ Z) → St c m Z k s → (∀ tk, Q v { s with toks := tk }) → wpAny (model PRG c.w) c.A t Q (fun _ _ => False) s) : Ev c R Y m 0 t P := by
  intro s Z U k Q _ hY hU S _ ret
  exact h s Z k Q (fun p hp => hU p (hY p hp)) S fun tk => ret v [] k s.heap tk (by omega) S.self Fresh.nil (hP _ _ _ (fun p hp => hY p hp) hv)
theorem ev_mul {l r : Expr} {pos : Pos} {b1 b2 : Nat} {x y : Int} (hm : IntMulOk x y) (h1 : Ev c R Y m b1 (eval l env) (IsD (.int x))) (h2 : Ev c R Y m b2 (eval r env) (IsD (.int y))) : Ev c R Y m (b1 + b2) (eval (.BinOp l .Mult r pos) env) (IsD (.int (x * y))) :=
  ev_bin h1 h2 fun v u Y' _ hv hu => by
    obtain ⟨tv, rfl⟩ := dint hv; obtain ⟨tu, rfl⟩ := dint hu
    intro s Z U k Q _ _ _ S _ ret
    exact PyProof.Rows.mul_int (ret _ [] k s.heap _ (by omega) S.self Fresh.nil (.int _ _)) hm
theorem ev_fdiv {l r : Expr} {pos : Pos} {b1 b2 : Nat} {x y : Int} (h0 : y ≠ 0) (hp : Builtin.divisionGoesByPylong x y = false) (h1 : Ev c R Y m b1 (eval l env) (IsD (.int x))) (h2 : Ev c R Y m b2 (eval r env) (IsD (.int y))) :
    Ev c R Y m (b1 + b2) (eval (.BinOp l .FloorDiv r pos) env) (IsD (.int (x.fdiv y))) :=
  ev_bin h1 h2 fun v u Y' _ hv hu => by
    obtain ⟨tv, rfl⟩ := dint hv; obtain ⟨tu, rfl⟩ := dint hu
    intro s Z U k Q _ _ _ S _ ret
    exact PySem.AutoIntOpsIf.floordiv (by
      rw [if_neg (by simpa using h0), if_neg (by simp [hp])]
      exact ret _ [] k s.heap _ (by omega) S.self Fresh.nil (.int _ _))
theorem ev_adds {l r : Expr} {pos : Pos} {b1 b2 : Nat} {x y : Str} (hz : x.length + y.length ≤ 1000) (h1 : Ev c R Y m b1 (eval l env) (IsD (.str x))) (h2 : Ev c R Y m b2 (eval r env) (IsD (.str y))) :
    Ev c R Y m (b1 + b2) (eval (.BinOp l .Add r pos) env) (IsD (.str (x ++ y))) :=
  ev_bin h1 h2 fun v u Y' _ hv hu => by
    obtain ⟨tv, rfl⟩ := dstr hv; obtain ⟨tu, rfl⟩ := dstr hu
    intro s Z U k Q _ _ _ S _ ret
    exact SBL.add (fun t' tk _ => ret _ [] k s.heap _ (by omega) S.self Fresh.nil (.str _ _)) (by rw [sizeLine_eq]; omega)
/-- tests -/
abbrev IsB (b : Bool) : Led → Bool → Prop := fun _ x => x = b
theorem ev_test {l r : Expr} {op : CmpOp} {pos : Pos} {t : Sem Value} {b1 b2 : Nat} {d1 d2 : Dat} {B : Bool} (h1 : Ev c R Y m b1 (eval l env) (IsD d1)) (h2 : Ev c R Y m b2 (eval r env) (IsD d2)) (hm : behindInMarks op r = false)
    (h3 : ∀ v u Y', DatIn Y' v d1 → DatIn Y' u d2 → Ev c [] Y' m 0 (compareOp op v u) (fun _ x => x = .bool B)) : Ev c R Y m (b1 + b2) (isTrue (.Compare l [op] [r] pos) env t) (IsB B) := by
  intro s Z U k Q hR hY hU S hk ret
  refine wpAny_isTrue_Compare1 ?_ hm
  refine h1 s Z U k _ hR hY hU S (by omega) fun v V k1 hp1 tk1 hk1 S1 f1 p1 => ?_
  refine h2 _ (V ++ Z) (V ++ U) k1 _ (fun p hp => List.mem_append_right _ (hR p hp)) (fun p hp => List.mem_append_right _ (hY p hp)) (fun p hp => (List.mem_append.mp hp).elim (List.mem_append_left _) fun h => List.mem_append_right _ (hU p h)) S1 (by omega) fun u V2 k2 hp2 tk2 hk2 S2 f2 p2 => ?_
  have hsub : ∀ p ∈ V2 ++ (V ++ U), p ∈ V2 ++ (V ++ Z) := fun p hp => by
    simp only [List.mem_append] at hp ⊢
    rcases hp with h | h | h
    · exact .inl h
    · exact .inr (.inl h)
    · exact .inr (.inr (hU p h))
  refine h3 v u (V2 ++ (V ++ U)) (p1.mono fun p hp => List.mem_append_right _ hp) p2 _ (V2 ++ (V ++ Z)) (V2 ++ (V ++ U)) k2 _ (fun p hp => absurd hp List.not_mem_nil) (fun _ h => h) hsub S2 (by omega) fun b V3 k3 hp3 tk3 hk3 S3 f3 p3 => ?_
  subst p3
  refine wpAny_truthy_bool ?_
  refine ret B (V3 ++ V2 ++ V) k3 hp3 tk3 (by omega) ?_ ?_ rfl
  · rw [List.append_assoc, List.append_assoc]; exact S3
  · exact f1.app (by
      intro p hp q hq
      rcases List.mem_append.mp hp with h | h
      · exact f3 p h q (List.mem_append_right _ hq)
      · exact f2 p h q hq)
theorem monoEq {α : Type} (a : α) : Mono (fun (_ : Led) (x : α) => x = a) := fun _ _ _ _ h => h
theorem ev_gt {l r : Expr} {pos : Pos} {t : Sem Value} {b1 b2 : Nat} {x y : Int} (h1 : Ev c R Y m b1 (eval l env) (IsD (.int x))) (h2 : Ev c R Y m b2 (eval r env) (IsD (.int y))) (hm : behindInMarks .Gt r = false) :
    Ev c R Y m (b1 + b2) (isTrue (.Compare l [.Gt] [r] pos) env t) (IsB (decide (x > y))) :=
  ev_test h1 h2 hm fun v u Y' hv hu => by
    obtain ⟨tv, rfl⟩ := dint hv; obtain ⟨tu, rfl⟩ := dint hu
    exact Ev.now (monoEq _) rfl fun s Z k Q _ S ret => PySem.P.gt_int (ret s.toks)
theorem ev_lt {l r : Expr} {pos : Pos} {t : Sem Value} {b1 b2 : Nat} {x y : Int} (h1 : Ev c R Y m b1 (eval l env) (IsD (.int x))) (h2 : Ev c R Y m b2 (eval r env) (IsD (.int y))) (hm : behindInMarks .Lt r = false) :
    Ev c R Y m (b1 + b2) (isTrue (.Compare l [.Lt] [r] pos) env t) (IsB (decide (x < y))) :=
  ev_test h1 h2 hm fun v u Y' hv hu => by
    obtain ⟨tv, rfl⟩ := dint hv; obtain ⟨tu, rfl⟩ := dint hu
    exact Ev.now (monoEq _) rfl fun s Z k Q _ S ret => PyProof.Rows.lt_int (ret s.toks)
theorem ev_neI {l r : Expr} {pos : Pos} {t : Sem Value} {b1 b2 : Nat} {x y : Int} (h1 : Ev c R Y m b1 (eval l env) (IsD (.int x))) (h2 : Ev c R Y m b2 (eval r env) (IsD (.int y))) (hm : behindInMarks .NotEq r = false) :
    Ev c R Y m (b1 + b2) (isTrue (.Compare l [.NotEq] [r] pos) env t) (IsB (x != y)) :=
  ev_test h1 h2 hm fun v u Y' hv hu => by
    obtain ⟨tv, rfl⟩ := dint hv; obtain ⟨tu, rfl⟩ := dint hu
    exact Ev.now (monoEq _) rfl fun s Z k Q _ S ret => PySem.P.ne_int (ret s.toks)
theorem ev_neB {l r : Expr} {pos : Pos} {t : Sem Value} {b1 b2 : Nat} {x y : Array UInt8} (h1 : Ev c R Y m b1 (eval l env) (IsD (.bytes x))) (h2 : Ev c R Y m b2 (eval r env) (IsD (.bytes y))) (hm : behindInMarks .NotEq r = false) :
    Ev c R Y m (b1 + b2) (isTrue (.Compare l [.NotEq] [r] pos) env t) (IsB (x.toList != y.toList)) :=
  ev_test h1 h2 hm fun v u Y' hv hu => by
    obtain ⟨tv, rfl⟩ := dbytes hv; obtain ⟨tu, rfl⟩ := dbytes hu
    exact Ev.now (monoEq _) rfl fun s Z k Q _ S ret => ne_bytes (ret s.toks)
theorem ev_eqS {l r : Expr} {pos : Pos} {t : Sem Value} {b1 b2 : Nat} {x y : Str} (h1 : Ev c R Y m b1 (eval l env) (IsD (.str x))) (h2 : Ev c R Y m b2 (eval r env) (IsD (.str y))) (hm : behindInMarks .Eq r = false) :
    Ev c R Y m (b1 + b2) (isTrue (.Compare l [.Eq] [r] pos) env t) (IsB (decide (x = y))) :=
  ev_test h1 h2 hm fun v u Y' hv hu => by
    obtain ⟨tv, rfl⟩ := dstr hv; obtain ⟨tu, rfl⟩ := dstr hu
    refine Ev.now (monoEq _) rfl fun s Z k Q _ S ret => PySem.P.eq_str ?_
    have e : (x.cps.toList == y.cps.toList) = decide (x = y) := by
      rcases x with ⟨a⟩; rcases y with ⟨b⟩
      rw [Bool.eq_iff_iff]
      simp
    rw [e]; exact ret s.toks
open Classical in
theorem ev_inL {l r : Expr} {pos : Pos} {t : Sem Value} {b1 b2 : Nat} {d : Dat} {ds : List Dat} {B : Bool} (hB : B = true ↔ d ∈ ds) (hu : c.A.units + 64 < cLine) (ha : ∀ d ∈ ds, kqdOk 8 d = true) (hd : kqdOk 8 d = true)
    (h1 : Ev c R Y m b1 (eval l env) (IsD d)) (h2 : Ev c R Y m b2 (eval r env) (IsD (.list ds))) (hm : behindInMarks .In r = false) :
    Ev c R Y m (b1 + b2) (isTrue (.Compare l [.In] [r] pos) env t) (IsB B) :=
  ev_test h1 h2 hm fun v u Y' hv hu' => by
    obtain ⟨a, vs, n, rfl, hl, hall⟩ := dlist hu'
    exact Ev.now (monoEq _) rfl fun s Z k Q hs S ret => kqd_isIn S.news (hs _ hl) rfl rfl hall hs hv hs ha hd hu (by
      have e : B = decide (d ∈ ds) := by rw [Bool.eq_iff_iff, hB]; simp
      rw [← e]; exact ret s.toks)
open Classical in
theorem ev_neL {l r : Expr} {pos : Pos} {t : Sem Value} {b1 b2 : Nat} {ds es : List Dat} {B : Bool} (hB : B = true ↔ ds ≠ es) (hu : c.A.units + 64 < cLine) (ha : ∀ d ∈ ds, kqdOk 8 d = true) (hb : ∀ d ∈ es, kqdOk 8 d = true)
    (h1 : Ev c R Y m b1 (eval l env) (IsD (.list ds))) (h2 : Ev c R Y m b2 (eval r env) (IsD (.list es))) (hm : behindInMarks .NotEq r = false) :
    Ev c R Y m (b1 + b2) (isTrue (.Compare l [.NotEq] [r] pos) env t) (IsB B) :=
  ev_test h1 h2 hm fun v u Y' hv hu' => by
    obtain ⟨a, vs, n, rfl, hl, hall⟩ := dlist hv
    obtain ⟨a2, vs2, n2, rfl, hl2, hall2⟩ := dlist hu'
    exact Ev.now (monoEq _) rfl fun s Z k Q hs S ret => kqd_ne S.news (hs _ hl) rfl rfl hall hs (hs _ hl2) rfl rfl hall2 hs ha hb hu (by
      have e : B = !decide (ds = es) := by rw [Bool.eq_iff_iff, hB]; simp
      rw [← e]; exact ret s.toks)
/-- items -/
theorem ev_item {e i : Expr} {pos : Pos} {b1 b2 : Nat} {ds : List Dat} {d : Dat} {j : Int} (h1 : Ev c R Y m b1 (eval e env) (IsD (.list ds))) (h2 : Ev c R Y m b2 (eval i env) (IsD (.int j))) (h0 : 0 ≤ j) (hj : ds[j.toNat]? = some d) (hl : ds.length ≤ 1000)
    (hs : ∀ o v, subscripted i false o v = operate [o, v] (getItem o v)) : Ev c R Y m (b1 + b2) (eval (.Subscript e i pos) env) (IsD d) := by
  intro s Z U k Q hR hY hU S hk ret
  refine Subscript_ ?_
  refine h1 s Z U k _ hR hY hU S (by omega) fun v V k1 hp1 tk1 hk1 S1 f1 p1 => ?_
  refine h2 _ (V ++ Z) (V ++ U) k1 _ (fun p hp => List.mem_append_right _ (hR p hp)) (fun p hp => List.mem_append_right _ (hY p hp)) (fun p hp => (List.mem_append.mp hp).elim (List.mem_append_left _) fun h => List.mem_append_right _ (hU p h)) S1 (by omega) fun u V2 k2 hp2 tk2 hk2 S2 f2 p2 => ?_
  obtain ⟨tj, rfl⟩ := dint p2
  obtain ⟨a, vs, n, rfl, hm, hall⟩ := dlist p1
  have hm' : _ ∈ V2 ++ (V ++ Z) := List.mem_append_right _ ((List.mem_append.mp hm).elim (List.mem_append_left _) fun h => List.mem_append_right _ (hU _ h))
  have hlv := hall.length
  have hlt : j.toNat < ds.length := by
    rcases Nat.lt_or_ge j.toNat ds.length with h | h
    · exact h
    · rw [List.getElem?_eq_none h] at hj; cases hj
  obtain ⟨x, hx⟩ : ∃ x, vs[j.toNat]? = some x := ⟨_, List.getElem?_eq_getElem (by omega)⟩
  obtain ⟨d', hd', hdv⟩ := datAll_get hall hx
  rw [hj] at hd'; cases hd'
  have hL := jIsL S2.news hm'
  refine tail_any hL.typeIs slot_list_getitem.lookup (wpAny_getItem_list hL h0 (by omega) (by simpa using hx) ?_) (hs _ _)
  refine ret x (V2 ++ V) k2 hp2 tk2 (by omega) ?_ (f1.app f2) ?_
  · rw [List.append_assoc]; exact S2
  · rw [List.append_assoc]; exact hdv.mono fun p hp => List.mem_append_right _ hp
theorem ev_titem {e i : Expr} {pos : Pos} {b1 b2 : Nat} {ds : List Dat} {d : Dat} {j : Int} (h1 : Ev c R Y m b1 (eval e env) (IsD (.tuple ds))) (h2 : Ev c R Y m b2 (eval i env) (IsD (.int j))) (h0 : 0 ≤ j) (hj : ds[j.toNat]? = some d) (hl : ds.length ≤ 1000)
    (hs : ∀ o v, subscripted i false o v = operate [o, v] (getItem o v)) : Ev c R Y m (b1 + b2) (eval (.Subscript e i pos) env) (IsD d) := by
  intro s Z U k Q hR hY hU S hk ret
  refine Subscript_ ?_
  refine h1 s Z U k _ hR hY hU S (by omega) fun v V k1 hp1 tk1 hk1 S1 f1 p1 => ?_
  refine h2 _ (V ++ Z) (V ++ U) k1 _ (fun p hp => List.mem_append_right _ (hR p hp)) (fun p hp => List.mem_append_right _ (hY p hp)) (fun p hp => (List.mem_append.mp hp).elim (List.mem_append_left _) fun h => List.mem_append_right _ (hU p h)) S1 (by omega) fun u V2 k2 hp2 tk2 hk2 S2 f2 p2 => ?_
  obtain ⟨tj, rfl⟩ := dint p2
  obtain ⟨a, vs, n, rfl, hm, hall⟩ := dtup p1
  have hm' : _ ∈ V2 ++ (V ++ Z) := List.mem_append_right _ ((List.mem_append.mp hm).elim (List.mem_append_left _) fun h => List.mem_append_right _ (hU _ h))
  have hlv := hall.length
  have hlt : j.toNat < ds.length := by
    rcases Nat.lt_or_ge j.toNat ds.length with h | h
    · exact h
    · rw [List.getElem?_eq_none h] at hj; cases hj
  obtain ⟨x, hx⟩ : ∃ x, vs[j.toNat]? = some x := ⟨_, List.getElem?_eq_getElem (by omega)⟩
  obtain ⟨d', hd', hdv⟩ := datAll_get hall hx
  rw [hj] at hd'; cases hd'
  have hT : IsTup (Shared.heap { s with heap := hp2, toks := tk2 }) a vs.toArray := ⟨_, (S2.news _ hm').1, rfl, n, rfl⟩
  refine tail_any hT.typeIs slot_tuple_getitem.lookup (getItem_tuple hT (by omega) (by omega) (j_seqIndex h0 (by rw [List.size_toArray]; omega)) (by simpa using hx) ?_) (hs _ _)
  refine ret x (V2 ++ V) k2 hp2 tk2 (by omega) ?_ (f1.app f2) ?_
  · rw [List.append_assoc]; exact S2
  · rw [List.append_assoc]; exact hdv.mono fun p hp => List.mem_append_right _ hp
/-- a dict with written text keys -/
abbrev SK (c : Cx) : KeyKind PRG c.w Str := PySem.strKind PRG c.w
inductive IsDictW (w : World) (ks : List Str) (C : Str → Led → Value → Prop) (Y : Led) (v : Value) : Prop
  | mk (a o kvs)
    (x0 : v = .ref a)
    (x1 : (a, o) ∈ Y)
    (x2 : (a == sysModules) = false)
    (x3 : o.IsDictOf (PySem.strKind PRG w) kvs)
    (x4 : kvs.map (·.1) = ks)
    (x5 : ∀ x u, valueAt kvs x = some u → C x Y u) : IsDictW w ks C Y v
abbrev IsDict (c : Cx) := IsDictW c.w
theorem monoDict {ks : List Str} {C : Str → Led → Value → Prop} (h : ∀ x, Mono (C x)) : Mono (IsDict c ks C) := by
  rintro Y Y' v hs ⟨a, o, kvs, e, hm, hl, hd, hk, hc⟩
  exact ⟨a, o, kvs, e, hs _ hm, hl, hd, hk, fun x u hu => h x _ _ _ hs (hc x u hu)⟩
theorem valueAt_mem {kvs : List (Str × Value)} {x : Str} (h : x ∈ kvs.map (·.1)) : ∃ u, valueAt kvs x = some u := by
  cases h1 : valueAt kvs x with
  | some u => exact ⟨u, rfl⟩
  | none =>
    exfalso
    obtain ⟨p, hp, rfl⟩ := List.mem_map.mp h
    unfold valueAt at h1
    rw [Option.map_eq_none_iff, List.find?_eq_none] at h1
    exact h1 p hp (by simp)
theorem ev_ditem {e i : Expr} {pos : Pos} {b1 b2 : Nat} {ks : List Str} {C : Str → Led → Value → Prop} {x : Str} (hC : Mono (C x)) (h1 : Ev c R Y m b1 (eval e env) (IsDict c ks C)) (h2 : Ev c R Y m b2 (eval i env) (IsD (.str x))) (hx : x ∈ ks)
    (hs : ∀ o v, subscripted i false o v = operate [o, v] (getItem o v)) : Ev c R Y m (b1 + b2) (eval (.Subscript e i pos) env) (C x) := by
  intro s Z U k Q hR hY hU S hk ret
  refine Subscript_ ?_
  refine h1 s Z U k _ hR hY hU S (by omega) fun v V k1 hp1 tk1 hk1 S1 f1 p1 => ?_
  refine h2 _ (V ++ Z) (V ++ U) k1 _ (fun p hp => List.mem_append_right _ (hR p hp)) (fun p hp => List.mem_append_right _ (hY p hp)) (fun p hp => (List.mem_append.mp hp).elim (List.mem_append_left _) fun h => List.mem_append_right _ (hU p h)) S1 (by omega) fun u V2 k2 hp2 tk2 hk2 S2 f2 p2 => ?_
  obtain ⟨tj, rfl⟩ := dstr p2
  obtain ⟨a, o, kvs, rfl, hm, hlo, hd, hks, hc⟩ := p1
  have hm' : _ ∈ V2 ++ (V ++ Z) := List.mem_append_right _ ((List.mem_append.mp hm).elim (List.mem_append_left _) fun h => List.mem_append_right _ (hU _ h))
  obtain ⟨y, hy⟩ := valueAt_mem (hks ▸ hx)
  have hD := kda_dict S2.news hm' hd
  refine tail_any hD.typeIs slot_dict_getitem.lookup (wpAny_getItem_of (knd := SK c) (strKind_is _ _ _ _) hD.mapOf hy ?_) (hs _ _)
  refine ret y (V2 ++ V) k2 hp2 _ (by omega) ?_ (f1.app f2) ?_
  · rw [List.append_assoc]; exact S2.toks
  · rw [List.append_assoc]; exact hC _ _ _ (fun p hp => List.mem_append_right _ hp) (hc x y hy)
end

end
section
section
variable {α β : Type} {c : Cx} {R Y : Led} {m : Str → Option Value} {env : Env}
/-- one new object on top, as the library hands it on -/
theorem Ev.made {P : Led → Value → Prop} {s : Shared} {Z U : Led} {k : Int} {Q : Value → Shared → Prop} {D : Addr} {o : Obj} {h' : Heap} {tk' b : Nat} {hd : Addr × Obj} (S : St c m Z k s) (hh : ∃ t n, hd = (c.hand, listOf #[.ref c.sc, .int k t] n))
    (F' : Fr c.h₀ c.L h' m) (N' : News c.h₀ c.L h' ((D, o) :: hd :: Z)) (lt : ∀ q ∈ hd :: Z, q.1 < D) (hP : P ((D, o) :: U) (.ref D))
    (ret : ∀ v V k' h' tk', k' ≤ k + b → St c m (V ++ Z) k' { s with heap := h', toks := tk' } → Fresh V Z → P (V ++ U) v → Q v { s with heap := h', toks := tk' }) : Q (.ref D) { s with heap := h', toks := tk' } := by
  obtain ⟨S', f'⟩ := S.push (V := [(D, o)]) F' hh N' (fun p hp q hq => by rw [List.mem_singleton.mp hp]; exact Nat.ne_of_lt (lt q hq))
  exact ret _ [(D, o)] k h' tk' (by omega) S' f' hP
theorem St.hd {Z : Led} {k : Int} {s : Shared} (S : St c m Z k s) : ∃ hd, (∃ t n, hd = (c.hand, listOf #[.ref c.sc, .int k t] n)) ∧ News c.h₀ c.L s.heap (hd :: Z) := by
  obtain ⟨⟨t, n, N⟩, _⟩ := S.N
  exact ⟨_, ⟨t, n, rfl⟩, N⟩
/-- arguments -/
theorem ea_nil {pos : Pos} : Ev c R Y m 0 (spliced (backTo pos (starEach [] env))) (fun Y vs => DatAll Y vs []) := by
  intro s Z U k Q _ _ _ S _ ret
  exact wpAny_items_nil (ret _ [] k s.heap s.toks (by omega) S.self Fresh.nil .nil)
theorem ea_cons {pos : Pos} {e : Expr} {rest : List Expr} {b1 b2 : Nat} {P1 : Led → Value → Prop} {P2 : Led → List Value → Prop} (hP : Mono P1) (h1 : Ev c R Y m b1 (eval e env) P1) (h2 : Ev c R Y m b2 (spliced (backTo pos (starEach rest env))) P2)
    (he : starEach (e :: rest) env = (false, eval e env) :: starEach rest env) :
    Ev c R Y m (b1 + b2) (spliced (backTo pos (starEach (e :: rest) env))) (fun Y vs => ∃ v us, vs = v :: us ∧ P1 Y v ∧ P2 Y us) := by
  intro s Z U k Q hR hY hU S hk ret
  refine wpAny_items_cons ?_ he
  refine h1 s Z U k _ hR hY hU S (by omega) fun v V k1 hp1 tk1 hk1 S1 f1 p1 => ?_
  refine h2 _ (V ++ Z) (V ++ U) k1 _ (fun p hp => List.mem_append_right _ (hR p hp)) (fun p hp => List.mem_append_right _ (hY p hp)) (fun p hp => (List.mem_append.mp hp).elim (List.mem_append_left _) fun h => List.mem_append_right _ (hU p h)) S1 (by omega) fun us V2 k2 hp2 tk2 hk2 S2 f2 p2 => ?_
  refine ret _ (V2 ++ V) k2 hp2 tk2 (by omega) ?_ (f1.app f2) ⟨v, us, rfl, ?_, ?_⟩
  · rw [List.append_assoc]; exact S2
  · rw [List.append_assoc]; exact hP _ _ _ (fun p hp => List.mem_append_right _ hp) p1
  · rw [List.append_assoc]; exact p2
theorem ea1 {pos : Pos} {e : Expr} {b1 : Nat} {P1 : Led → Value → Prop} (hP : Mono P1) (h1 : Ev c R Y m b1 (eval e env) P1) (he : starEach [e] env = (false, eval e env) :: starEach [] env) :
    Ev c R Y m b1 (spliced (backTo pos (starEach [e] env))) (fun Y vs => ∃ v, vs = [v] ∧ P1 Y v) :=
  (ea_cons (b2 := 0) hP h1 ea_nil he).imp fun Y vs ⟨v, us, e, p, q⟩ => by cases q; exact ⟨v, e, p⟩
theorem ea2 {pos : Pos} {e1 e2 : Expr} {b1 b2 : Nat} {P1 P2 : Led → Value → Prop} (hP : Mono P1) (hP2 : Mono P2) (h1 : Ev c R Y m b1 (eval e1 env) P1) (h2 : Ev c R Y m b2 (eval e2 env) P2)
    (he : starEach [e1, e2] env = (false, eval e1 env) :: starEach [e2] env) (he2 : starEach [e2] env = (false, eval e2 env) :: starEach [] env) :
    Ev c R Y m (b1 + b2) (spliced (backTo pos (starEach [e1, e2] env))) (fun Y vs => ∃ v u, vs = [v, u] ∧ P1 Y v ∧ P2 Y u) :=
  (ea_cons hP h1 (ea1 hP2 h2 he2) he).imp fun Y vs ⟨v, us, e, p, u, e', q⟩ => ⟨v, u, by rw [e, e'], p, q⟩
theorem ev_tuple2 {e1 e2 : Expr} {kn : Nat} {pos : Pos} {b1 b2 : Nat} {d1 d2 : Dat} (h1 : Ev c R Y m b1 (eval e1 env) (IsD d1)) (h2 : Ev c R Y m b2 (eval e2 env) (IsD d2))
    (he : starEach [e1, e2] env = (false, eval e1 env) :: starEach [e2] env) (he2 : starEach [e2] env = (false, eval e2 env) :: starEach [] env) :
    Ev c R Y m (b1 + b2) (eval (.Tuple [e1, e2] kn pos) env) (IsD (.tuple [d1, d2])) := by
  intro s Z U k Q hR hY hU S hk ret
  refine Tuple_ ?_
  refine Ev.seq (b1 := b1 + b2) (b2 := 0) (P := IsD (.tuple [d1, d2])) (ea2 (monoD _) (monoD _) h1 h2 he he2) (fun vs Y' hs pv => ?_) hR hY hU S (by omega) ret
  obtain ⟨v, u, rfl, p, q⟩ := pv
  intro s Z U k Q _ hY' _ S _ ret
  obtain ⟨hd, hh, N⟩ := S.hd
  exact kup_newTuple S.F N (fun D h' F' N' l => Ev.made (P := IsD (.tuple [d1, d2])) (tk' := s.toks) S hh F' N' l (DatIn.tuple List.mem_cons_self (.cons (p.mono fun x hx => List.mem_cons_of_mem _ (hY' x hx)) (.cons (q.mono fun x hx => List.mem_cons_of_mem _ (hY' x hx)) .nil))) ret) (by rw [sizeLine_eq]; exact Nat.le_of_ble_eq_true rfl)
theorem ev_list0 {pos : Pos} : Ev c R Y m 0 (eval (.List [] pos) env) (fun Y v => ∃ a, v = .ref a ∧ (a, listOf #[] 0) ∈ Y) := by
  intro s Z U k Q _ _ _ S _ ret
  refine List_ (wpAny_items_nil ?_)
  obtain ⟨hd, hh, N⟩ := S.hd
  exact newList_K S.F N (fun D h' F' N' l => Ev.made (P := fun Y v => ∃ a, v = .ref a ∧ (a, listOf #[] 0) ∈ Y) (tk' := s.toks) S hh F' N' l ⟨D, rfl, List.mem_cons_self⟩ ret) (by rw [sizeLine_eq]; decide)
theorem ev_list0D {pos : Pos} : Ev c R Y m 0 (eval (.List [] pos) env) (IsD (.list [])) := ev_list0.imp fun Y v ⟨a, e, h⟩ => e ▸ DatIn.list (vs := []) h .nil
/-- calls by name -/
theorem ev_callB {x : Str} {p pos : Pos} {e : Expr} {rest : List Expr} {id : String} {b1 b2 : Nat} {PA : Led → List Value → Prop} {P : Led → Value → Prop} (r : Rd c R m env x (.builtin id)) (ha : Ev c R Y m b1 (spliced (backTo pos (starEach (e :: rest) env))) PA)
    (hc : ∀ vs Y', (∀ p ∈ Y, p ∈ Y') → PA Y' vs → Ev c R Y' m b2 (call (.builtin id) vs) P) (he : starEach (e :: rest) env = (false, eval e env) :: starEach rest env) (hplain : (backTo pos (starEach rest env)).any (·.1) = false) :
    Ev c R Y m (b1 + b2) (eval (.Call (.Name x p) (e :: rest) [] pos) env) P := by
  intro s Z U k Q hR hY hU S hk ret
  refine Call_Name rfl (r s Z k _ p hR S ?_)
  refine callWith_method1 (first := []) ?_ he hplain
  exact Ev.seq ha (fun vs Y' hs pv => by rw [List.nil_append]; exact hc vs Y' hs pv) hR hY hU S hk ret
theorem ev_callT {x : Str} {p pos : Pos} {e : Expr} {rest : List Expr} {T : String} {b1 b2 : Nat} {PA : Led → List Value → Prop} {P : Led → Value → Prop} (r : Rd c R m env x (.type T)) (ha : Ev c R Y m b1 (spliced (backTo pos (starEach (e :: rest) env))) PA)
    (hc : ∀ vs Y', (∀ p ∈ Y, p ∈ Y') → PA Y' vs → Ev c R Y' m b2 (call (.type T) vs) P) (he : starEach (e :: rest) env = (false, eval e env) :: starEach rest env) (hplain : (backTo pos (starEach rest env)).any (·.1) = false) :
    Ev c R Y m (b1 + b2) (eval (.Call (.Name x p) (e :: rest) [] pos) env) P := by
  intro s Z U k Q hR hY hU S hk ret
  refine Call_Name rfl (r s Z k _ p hR S ?_)
  refine PyProof.Rows.callWith_type1 ?_ he hplain
  exact Ev.seq ha hc hR hY hU S hk ret
theorem ev_callK {x : Str} {p pos : Pos} {e : Expr} {rest : List Expr} {K : Frag} {f : Value} {b1 b2 : Nat} {PA : Led → List Value → Prop} {P : Led → Value → Prop} (X : K.In c.h₀) (hkp : keepIn K f = true) (r : Rd c R m env x f) (ha : Ev c R Y m b1 (spliced (backTo pos (starEach (e :: rest) env))) PA)
    (hc : ∀ vs Y', (∀ p ∈ Y, p ∈ Y') → PA Y' vs → Ev c R Y' m b2 (call f vs) P) (he : starEach (e :: rest) env = (false, eval e env) :: starEach rest env) (hplain : (backTo pos (starEach rest env)).any (·.1) = false) :
    Ev c R Y m (b1 + b2) (eval (.Call (.Name x p) (e :: rest) [] pos) env) P := by
  intro s Z U k Q hR hY hU S hk ret
  refine Call_Name rfl (r s Z k _ p hR S ?_)
  refine callWith_K (first := []) X hkp ?_ he hplain
  refine ha s Z U k _ hR hY hU S (by omega) fun vs V k1 hp1 tk1 hk1 S1 f1 p1 => ⟨X.keeps S1.F.keep, ?_⟩
  refine hc vs (V ++ U) (fun p hp => List.mem_append_right _ (hY p hp)) p1 _ (V ++ Z) (V ++ U) k1 Q (fun p hp => List.mem_append_right _ (hR p hp)) (fun _ h => h) (fun p hp => (List.mem_append.mp hp).elim (List.mem_append_left _) fun h => List.mem_append_right _ (hU p h)) S1 (by omega) fun v2 V2 k2 hp2 tk2 hk2 S2 f2 p2 => ?_
  refine ret v2 (V2 ++ V) k2 hp2 tk2 (by omega) ?_ (f1.app f2) ?_
  · rw [List.append_assoc]; exact S2
  · rw [List.append_assoc]; exact p2
/-- what the built-in calls make -/
theorem ec_sortS {v : Value} {ss : List Str} (h : DatIn Y v (.list (ss.map Dat.str))) (h5 : ss.length ≤ 5) : Ev c R Y m 0 (call (.builtin "sorted") [v]) (IsD (.list ((jsrt ltS ss).map Dat.str))) := by
  obtain ⟨a, vs, n, rfl, hm, hall⟩ := dlist h
  intro s Z U k Q _ hY hU S _ ret
  obtain ⟨hd, hh, N⟩ := S.hd
  exact j_sortS S.F N (List.mem_cons_of_mem _ (hU _ (hY _ hm))) hall h5 fun D cc h' vs' F' N' l d _ => Ev.made (P := IsD _) (tk' := s.toks) S hh F' N' l (DatIn.list List.mem_cons_self (d.mono fun x hx => List.mem_cons_of_mem _ (hY x hx))) ret
theorem ec_sortT {v : Value} {ss : List (Str × Str)} (h : DatIn Y v (.list (ss.map rowT))) (h5 : ss.length ≤ 5) : Ev c R Y m 0 (call (.builtin "sorted") [v]) (IsD (.list ((jsrt ltP ss).map rowT))) := by
  obtain ⟨a, vs, n, rfl, hm, hall⟩ := dlist h
  intro s Z U k Q _ hY hU S _ ret
  obtain ⟨hd, hh, N⟩ := S.hd
  exact j_sortT S.F N (List.mem_cons_of_mem _ (hU _ (hY _ hm))) hall (fun p hp => List.mem_cons_of_mem _ (hU _ (hY _ hp))) h5 fun D cc h' vs' F' N' l d _ => Ev.made (P := IsD _) (tk' := s.toks) S hh F' N' l (DatIn.list List.mem_cons_self (d.mono fun x hx => List.mem_cons_of_mem _ (hY x hx))) ret
theorem ec_sortI {v : Value} {ns : List Int} (h : DatIn Y v (.list (ns.map Dat.int))) (h64 : ns.length < 64) : Ev c R Y m 0 (call (.builtin "sorted") [v]) (IsD (.list ((sortZ ns).map Dat.int))) := by
  obtain ⟨a, vs, n, rfl, hm, hall⟩ := dlist h
  intro s Z U k Q _ hY hU S _ ret
  obtain ⟨hd, hh, N⟩ := S.hd
  exact j_sortI S.F N (List.mem_cons_of_mem _ (hU _ (hY _ hm))) hall h64 fun D cc h' vs' F' N' l d _ => Ev.made (P := IsD _) (tk' := s.toks) S hh F' N' l (DatIn.list List.mem_cons_self (d.mono fun x hx => List.mem_cons_of_mem _ (hY x hx))) ret
theorem ec_sortD {v : Value} {ks : List Str} {C : Str → Led → Value → Prop} (hh0 : c.A.handled = none) (h : IsDict c ks C Y v) (h5 : ks.length ≤ 5) : Ev c R Y m 0 (call (.builtin "sorted") [v]) (IsD (.list ((jsrt ltS ks).map Dat.str))) := by
  obtain ⟨a, o, kvs, rfl, hm, hlo, hd', rfl, _⟩ := h
  intro s Z U k Q _ hY hU S _ ret
  obtain ⟨hd, hh, N⟩ := S.hd
  exact j_sortD hh0 S.F N (List.mem_cons_of_mem _ (hU _ (hY _ hm))) hd' hlo (by simpa using h5) fun D cc h' tk' vs' F' N' l d _ => Ev.made (P := IsD _) S hh F' N' l (DatIn.list List.mem_cons_self (DatAll.mono (fun x hx => List.mem_cons_of_mem _ (hY x hx)) d)) ret
theorem ec_list {v : Value} {ds : List Dat} (h : DatIn Y v (.list ds)) (hz : ds.length < 1000) : Ev c R Y m 0 (call (.type "list") [v]) (IsD (.list ds)) := by
  obtain ⟨a, vs, n, rfl, hm, hall⟩ := dlist h
  intro s Z U k Q _ hY hU S _ ret
  obtain ⟨hd, hh, N⟩ := S.hd
  exact j_copy S.F N (List.mem_cons_of_mem _ (hU _ (hY _ hm))) (by rw [hall.length]; exact hz) fun D cc h' F' N' l => Ev.made (P := IsD _) (tk' := s.toks) S hh F' N' l (DatIn.list List.mem_cons_self (hall.mono fun x hx => List.mem_cons_of_mem _ (hY x hx))) ret
theorem ec_len {v : Value} {ds : List Dat} (h : DatIn Y v (.list ds)) (hz : ds.length < 1000) : Ev c R Y m 0 (call (.builtin "len") [v]) (IsD (.int ds.length)) := by
  obtain ⟨a, vs, n, rfl, hm, hall⟩ := dlist h
  intro s Z U k Q _ hY hU S _ ret
  obtain ⟨hd, hh, N⟩ := S.hd
  exact j_len N (List.mem_cons_of_mem _ (hU _ (hY _ hm))) (by rw [hall.length]; exact hz) fun t tk => ret _ [] k s.heap tk (by omega) S.self Fresh.nil (by rw [← hall.length]; exact .int _ _)
end

end
section
section
variable {α β : Type} {c : Cx} {R Y : Led} {m : Str → Option Value} {env : Env}
/-- what a for or a comprehension goes over -/
def EvI (c : Cx) (R Y : Led) (m : Str → Option Value) (b : Nat) (env : Env) (i0 : Expr) (n : Nat) (P : Nat → Led → Value → Prop) : Prop :=
  ∀ (s : Shared) (Z U : Led) (k : Int) (Q : Value → Shared → Prop), (∀ p ∈ R, p ∈ Z) → (∀ p ∈ Y, p ∈ U) → (∀ p ∈ U, p ∈ Z) → St c m Z k s → k + b ≤ 890 →
    (∀ I cls keep V k' h' tk' P', JSrc PRG c.w c.A c.h₀ c.L I cls n P' keep h' → (∀ i v, i < n → P' i v → P i (V ++ U) v) → (∀ p ∈ keep, p ∈ V ++ U) → k' ≤ k + b → St c m (V ++ Z) k' { s with heap := h', toks := tk' } → Fresh V Z → (∀ p ∈ V ++ Z, p.1 < I) → c.hand < I → Q (.ref I) { s with heap := h', toks := tk' }) →
    wpAny (model PRG c.w) c.A (eval i0 env) (fun xv s₁ => wpAny (model PRG c.w) c.A (pyIter xv) Q (fun _ _ => False) s₁) (fun _ _ => False) s
abbrev ItemsD (ds : List Dat) : Nat → Led → Value → Prop := fun i Y v => ∃ d, ds[i]? = some d ∧ DatIn Y v d
/-- the same where the items are not known ahead -/
def EvG {ι : Type} (c : Cx) (R Y : Led) (m : Str → Option Value) (b : Nat) (env : Env) (i0 : Expr) (PN : ι → Prop) (len : ι → Nat) (PI : ι → Nat → Led → Value → Prop) : Prop :=
  ∀ (s : Shared) (Z U : Led) (k : Int) (Q : Value → Shared → Prop), (∀ p ∈ R, p ∈ Z) → (∀ p ∈ Y, p ∈ U) → (∀ p ∈ U, p ∈ Z) → St c m Z k s → k + b ≤ 890 →
    (∀ ds I cls keep V k' h' tk' P', PN ds → JSrc PRG c.w c.A c.h₀ c.L I cls (len ds) P' keep h' → (∀ i v, i < len ds → P' i v → PI ds i (V ++ U) v) → (∀ p ∈ keep, p ∈ V ++ U) → k' ≤ k + b → St c m (V ++ Z) k' { s with heap := h', toks := tk' } → Fresh V Z → (∀ p ∈ V ++ Z, p.1 < I) → c.hand < I → Q (.ref I) { s with heap := h', toks := tk' }) →
    wpAny (model PRG c.w) c.A (eval i0 env) (fun xv s₁ => wpAny (model PRG c.w) c.A (pyIter xv) Q (fun _ _ => False) s₁) (fun _ _ => False) s
abbrev EvX (c : Cx) (R Y : Led) (m : Str → Option Value) (b : Nat) (env : Env) (i0 : Expr) (PN : List Dat → Prop) : Prop := EvG c R Y m b env i0 PN List.length ItemsD
theorem EvI.x {i0 : Expr} {b : Nat} {ds : List Dat} (h : EvI c R Y m b env i0 ds.length (ItemsD ds)) : EvX c R Y m b env i0 (fun es => es = ds) := by
  intro s Z U k Q hR hY hU S hk ret
  exact h s Z U k Q hR hY hU S hk fun I cls keep V k' h' tk' P' => ret ds I cls keep V k' h' tk' P' rfl
theorem ex_list {i0 : Expr} {b : Nat} {PN : List Dat → Prop} (hh : c.A.handled = none) (h : Ev c R Y m b (eval i0 env) (fun Y v => ∃ ds, PN ds ∧ DatIn Y v (.list ds))) : EvX c R Y m b env i0 PN := by
  intro s Z U k Q hR hY hU S hk ret
  refine h s Z U k _ hR hY hU S hk fun v V k' h' tk' hk' S' f' p' => ?_
  obtain ⟨ds, hds, p'⟩ := p'
  obtain ⟨a, vs, n, rfl, hm, hall⟩ := dlist p'
  obtain ⟨hd, hh', N⟩ := S'.hd
  have hm' : (a, listOf (List.toArray vs) n) ∈ V ++ Z := (List.mem_append.mp hm).elim (List.mem_append_left _) fun h => List.mem_append_right _ (hU _ h)
  refine jiter_list hh S'.F N (List.mem_cons_of_mem _ hm') fun I h2 J F2 N2 l => ?_
  have e := hall.length
  rw [e] at J
  refine ret ds I _ _ V k' h2 tk' _ hds J (fun i v _ hv => datAll_get hall hv) (fun p hp => by rw [List.mem_singleton.mp hp]; exact hm) hk' ?_ f' (fun p hp => l p (List.mem_cons_of_mem _ hp)) ?_
  · obtain ⟨t, n, rfl⟩ := hh'
    exact ⟨F2, ⟨⟨t, n, N2⟩, S'.N.2⟩, S'.k0⟩
  · obtain ⟨t, n, rfl⟩ := hh'
    exact l _ List.mem_cons_self
theorem ei_list {i0 : Expr} {b : Nat} {ds : List Dat} (hh : c.A.handled = none) (h : Ev c R Y m b (eval i0 env) (IsD (.list ds))) : EvI c R Y m b env i0 ds.length (ItemsD ds) := by
  intro s Z U k Q hR hY hU S hk ret
  refine h s Z U k _ hR hY hU S hk fun v V k' h' tk' hk' S' f' p' => ?_
  obtain ⟨a, vs, n, rfl, hm, hall⟩ := dlist p'
  obtain ⟨hd, hh', N⟩ := S'.hd
  have hm' : (a, listOf (List.toArray vs) n) ∈ V ++ Z := (List.mem_append.mp hm).elim (List.mem_append_left _) fun h => List.mem_append_right _ (hU _ h)
  refine jiter_list hh S'.F N (List.mem_cons_of_mem _ hm') fun I h2 J F2 N2 l => ?_
  have e := hall.length
  rw [e] at J
  refine ret I _ _ V k' h2 tk' _ J (fun i v _ hv => datAll_get hall hv) (fun p hp => by rw [List.mem_singleton.mp hp]; exact hm) hk' ?_ f' (fun p hp => l p (List.mem_cons_of_mem _ hp)) ?_
  · obtain ⟨t, n, rfl⟩ := hh'
    exact ⟨F2, ⟨⟨t, n, N2⟩, S'.N.2⟩, S'.k0⟩
  · obtain ⟨t, n, rfl⟩ := hh'
    exact l _ List.mem_cons_self
theorem ei_keys {i0 : Expr} {b : Nat} {ks : List Str} {C : Str → Led → Value → Prop} (hh : c.A.handled = none) (h : Ev c R Y m b (eval i0 env) (IsDict c ks C)) : EvI c R Y m b env i0 ks.length (ItemsD (ks.map Dat.str)) := by
  intro s Z U k Q hR hY hU S hk ret
  refine h s Z U k _ hR hY hU S hk fun v V k' h' tk' hk' S' f' p' => ?_
  obtain ⟨a, o, kvs, rfl, hm, hlo, hd', rfl, _⟩ := p'
  obtain ⟨hd, hh', N⟩ := S'.hd
  have hm' : (a, o) ∈ V ++ Z := (List.mem_append.mp hm).elim (List.mem_append_left _) fun h => List.mem_append_right _ (hU _ h)
  refine jiter_keys (knd := SK c) hh S'.F N (List.mem_cons_of_mem _ hm') hd' hlo fun I h2 J F2 N2 l => ?_
  rw [← List.length_map (f := (·.1))] at J
  refine ret I _ _ V k' h2 tk' _ J (fun i v _ ⟨kk, x, e, hv⟩ => ?_) (fun p hp => by rw [List.mem_singleton.mp hp]; exact hm) hk' ?_ f' (fun p hp => l p (List.mem_cons_of_mem _ hp)) ?_
  · refine ⟨.str kk, by simp [e], ?_⟩
    obtain ⟨t, rfl⟩ := Value.isStrOf_shape hv
    exact .str _ _
  · obtain ⟨t, n, rfl⟩ := hh'
    exact ⟨F2, ⟨⟨t, n, N2⟩, S'.N.2⟩, S'.k0⟩
  · obtain ⟨t, n, rfl⟩ := hh'
    exact l _ List.mem_cons_self
def upTo (a : Int) (n : Nat) : List Dat := (List.range n).map fun (i : Nat) => Dat.int (a + (i : Int))
theorem upTo_get {a : Int} {n i : Nat} (h : i < n) : (upTo a n)[i]? = some (Dat.int (a + (i : Int))) := by simp [upTo, h]
theorem upTo_len (a : Int) (n : Nat) : (upTo a n).length = n := by simp [upTo]
theorem ei_range {x : Str} {p pos : Pos} {e : Expr} {b : Nat} {n : Nat} (hh : c.A.handled = none) (r : Rd c R m env x (.type "range")) (hn : n ≤ 1000) (h : Ev c R Y m b (eval e env) (IsD (.int n)))
    (he : starEach [e] env = (false, eval e env) :: starEach [] env) : EvI c R Y m b env (.Call (.Name x p) [e] [] pos) n (ItemsD (upTo 0 n)) := by
  intro s Z U k Q hR hY hU S hk ret
  refine Call_Name rfl (r s Z k _ p hR S ?_)
  refine PyProof.Rows.callWith_type1 ?_ he rfl
  refine ea1 (monoD _) h he s Z U k _ hR hY hU S hk fun vs V k' h' tk' hk' S' f' p' => ?_
  obtain ⟨v, rfl, hv⟩ := p'
  obtain ⟨tv, rfl⟩ := dint hv
  obtain ⟨hd, hh', N⟩ := S'.hd
  refine range1_rows S'.F N fun h2 tk2 t1 u1 v1 hr F2 N2 up => ?_
  refine jiter_range (n := n) hh F2 N2 hr (small_one (by decide) (by decide) (by omega) (by omega)) (by rw [rangeSize_nat]; omega) fun I h3 J F3 N3 l => ?_
  refine ret I _ _ V k' h3 tk2 _ J (fun i v hi ⟨t, e⟩ => ⟨_, upTo_get hi, e ▸ .int _ _⟩) (fun p hp => absurd hp List.not_mem_nil) hk' ?_ f' (fun p hp => l p (List.mem_cons_of_mem _ hp)) ?_
  · obtain ⟨t, n, rfl⟩ := hh'
    exact ⟨F3, ⟨⟨t, n, N3⟩, S'.N.2⟩, S'.k0⟩
  · obtain ⟨t, n, rfl⟩ := hh'
    exact l _ List.mem_cons_self
theorem ei_range2 {x : Str} {p pos : Pos} {e1 e2 : Expr} {b1 b2 : Nat} {a n : Nat} (hh : c.A.handled = none) (r : Rd c R m env x (.type "range")) (ha : a ≤ 1000) (hn : n ≤ 1000) (h1 : Ev c R Y m b1 (eval e1 env) (IsD (.int a))) (h2 : Ev c R Y m b2 (eval e2 env) (IsD (.int n)))
    (he : starEach [e1, e2] env = (false, eval e1 env) :: starEach [e2] env) (he2 : starEach [e2] env = (false, eval e2 env) :: starEach [] env) (hplain : (backTo pos (starEach [e2] env)).any (·.1) = false) : EvI c R Y m (b1 + b2) env (.Call (.Name x p) [e1, e2] [] pos) (n - a) (ItemsD (upTo a (n - a))) := by
  intro s Z U k Q hR hY hU S hk ret
  refine Call_Name rfl (r s Z k _ p hR S ?_)
  refine PyProof.Rows.callWith_type1 ?_ he hplain
  refine ea2 (monoD _) (monoD _) h1 h2 he he2 s Z U k _ hR hY hU S hk fun vs V k' h' tk' hk' S' f' p' => ?_
  obtain ⟨v, u, rfl, hv, hu⟩ := p'
  obtain ⟨tv, rfl⟩ := dint hv
  obtain ⟨tu, rfl⟩ := dint hu
  obtain ⟨hd, hh', N⟩ := S'.hd
  refine range2_rows S'.F N fun h2 tk2 t1 u1 v1 hr F2 N2 up => ?_
  refine jiter_range (n := n - a) hh F2 N2 hr (small_one (by omega) (by omega) (by omega) (by omega)) (by rw [rangeSize_nat]; omega) fun I h3 J F3 N3 l => ?_
  refine ret I _ _ V k' h3 tk2 _ J (fun i v hi ⟨t, e⟩ => ⟨_, upTo_get hi, e ▸ .int _ _⟩) (fun p hp => absurd hp List.not_mem_nil) hk' ?_ f' (fun p hp => l p (List.mem_cons_of_mem _ hp)) ?_
  · obtain ⟨t, n, rfl⟩ := hh'
    exact ⟨F3, ⟨⟨t, n, N3⟩, S'.N.2⟩, S'.k0⟩
  · obtain ⟨t, n, rfl⟩ := hh'
    exact l _ List.mem_cons_self
abbrev IsI (Pr : Int → Prop) : Led → Value → Prop := fun _ v => ∃ r t, v = .int r t ∧ Pr r
theorem monoI (Pr : Int → Prop) : Mono (IsI Pr) := fun _ _ _ _ h => h
theorem ex_range {x : Str} {p pos : Pos} {e : Expr} {b : Nat} {Pr : Int → Prop} (hh : c.A.handled = none) (r : Rd c R m env x (.type "range")) (hn : ∀ z, Pr z → 0 ≤ z ∧ z ≤ 1000) (h : Ev c R Y m b (eval e env) (IsI Pr))
    (he : starEach [e] env = (false, eval e env) :: starEach [] env) : EvX c R Y m b env (.Call (.Name x p) [e] [] pos) (fun ds => ∃ n : Nat, Pr n ∧ ds = upTo 0 n) := by
  intro s Z U k Q hR hY hU S hk ret
  refine Call_Name rfl (r s Z k _ p hR S ?_)
  refine PyProof.Rows.callWith_type1 ?_ he rfl
  refine ea1 (monoI _) h he s Z U k _ hR hY hU S hk fun vs V k' h' tk' hk' S' f' p' => ?_
  obtain ⟨v, rfl, z, tv, rfl, hz⟩ := p'
  obtain ⟨hz0, hz1⟩ := hn z hz
  obtain ⟨n, rfl⟩ : ∃ n : Nat, z = (n : Int) := ⟨z.toNat, by omega⟩
  obtain ⟨hd, hh', N⟩ := S'.hd
  refine range1_rows S'.F N fun h2 tk2 t1 u1 v1 hr F2 N2 up => ?_
  refine jiter_range (n := n) hh F2 N2 hr (small_one (by decide) (by decide) (by omega) (by omega)) (by rw [rangeSize_nat]; omega) fun I h3 J F3 N3 l => ?_
  rw [← upTo_len 0 n] at J
  refine ret (upTo 0 n) I _ _ V k' h3 tk2 _ ⟨n, hz, rfl⟩ J (fun i v hi ⟨t, e⟩ => ⟨_, upTo_get (by rwa [upTo_len] at hi), e ▸ .int _ _⟩) (fun p hp => absurd hp List.not_mem_nil) hk' ?_ f' (fun p hp => l p (List.mem_cons_of_mem _ hp)) ?_
  · obtain ⟨t, n, rfl⟩ := hh'
    exact ⟨F3, ⟨⟨t, n, N3⟩, S'.N.2⟩, S'.k0⟩
  · obtain ⟨t, n, rfl⟩ := hh'
    exact l _ List.mem_cons_self
/-- the store into a comprehension's own names -/
def Tgt (c : Cx) (scope : Scope) (cl : List (Str × Addr)) (env : Env) (t : Expr) (d : Dat) (B : List (Str × Dat)) : Prop :=
  ∀ (s : Shared) (Z Y : Led) (k : Int) (m : Str → Option Value) (C : Addr) (oC : Obj) (m₂ : Str → Option Value) (v : Value) (Q : Unit → Shared → Prop), St c m ((C, oC) :: Z) k s → (∀ p ∈ Z, p.1 ≠ C) → LCg.NsObj oC m₂ → (∀ p ∈ Y, p ∈ Z) → DatIn Y v d →
    (∀ h' tk' oC' m₂', St c m ((C, oC') :: Z) k { s with heap := h', toks := tk' } → LCg.NsObj oC' m₂' → (∀ y, y ∉ B.map (·.1) → m₂' y = m₂ y) → (∀ p ∈ B, ∃ u, m₂' p.1 = some u ∧ DatIn Y u p.2) → Q () { s with heap := h', toks := tk' }) →
    wpAny (model PRG c.w) c.A (assign t (compEnvC scope cl C env) v) Q (fun _ _ => False) s
theorem st_own {scope : Scope} {cl : List (Str × Addr)} {x : Str} {pos : Pos} {s : Shared} {Z : Led} {k : Int} {C : Addr} {oC : Obj} {m₂ : Str → Option Value} {v : Value} {Q : Unit → Shared → Prop} (hk : scope.kind = .function) (hl : ∀ C, (compEnvC scope cl C env).kindOf x = some .local)
    (S : St c m ((C, oC) :: Z) k s) (off : ∀ p ∈ Z, p.1 ≠ C) (hC : LCg.NsObj oC m₂)
    (ret : ∀ h' tk' oC', St c m ((C, oC') :: Z) k { s with heap := h', toks := tk' } → LCg.NsObj oC' (fun y => if y = x then some v else m₂ y) → Q () { s with heap := h', toks := tk' }) :
    wpAny (model PRG c.w) c.A (assign (.Name x pos) (compEnvC scope cl C env) v) Q (fun _ _ => False) s := by
  obtain ⟨⟨t, n, N⟩, o⟩ := S.N
  refine assign_Name (jst_own S.F N (UpdF.tail (fun e => o _ List.mem_cons_self e.symm) (UpdF.head off)) hC (fun h' oC' F' N' hC' => ret h' _ oC' ⟨F', ⟨⟨t, n, N'⟩, fun p hp => ?_⟩, S.k0⟩ hC') hk (hl C))
  rcases List.mem_cons.mp hp with rfl | hp
  · exact o (C, oC) List.mem_cons_self
  · exact o p (List.mem_cons_of_mem _ hp)
theorem tgt_name {scope : Scope} {cl : List (Str × Addr)} {x : Str} {pos : Pos} {d : Dat} (hk : scope.kind = .function) (hl : ∀ C, (compEnvC scope cl C env).kindOf x = some .local) : Tgt c scope cl env (.Name x pos) d [(x, d)] := by
  intro s Z Y k m C oC m₂ v Q S off hC hY hv ret
  refine st_own hk hl S off hC fun h' tk' oC' S' hC' => ret h' tk' oC' _ S' hC' (fun y hy => if_neg fun e => hy (by simp [e])) fun p hp => ?_
  rw [List.mem_singleton.mp hp]
  exact ⟨v, if_pos rfl, hv⟩
theorem tgt_pair {scope : Scope} {cl : List (Str × Addr)} {x y : Str} {px py pos : Pos} {kn : Nat} {d1 d2 : Dat} (hh : c.A.handled = none) (hk : scope.kind = .function) (hl : ∀ C, (compEnvC scope cl C env).kindOf x = some .local) (hl2 : ∀ C, (compEnvC scope cl C env).kindOf y = some .local) (hxy : x ≠ y)
    (ha : ∀ e, assignEach [.Name x px, .Name y py] e = [(false, assign (.Name x px) e), (false, assign (.Name y py) e)]) : Tgt c scope cl env (.Tuple [.Name x px, .Name y py] kn pos) (.tuple [d1, d2]) [(x, d1), (y, d2)] := by
  intro s Z Y k m C oC m₂ v Q S off hC hY hv ret
  obtain ⟨a, vs, n, rfl, hm, hall⟩ := dtup hv
  cases hall with
  | cons e1 hall =>
  cases hall with
  | cons e2 hall =>
  cases hall
  rename_i v1 v2
  obtain ⟨⟨t, nn, N⟩, o⟩ := S.N
  have hT : IsTup s.heap a #[v1, v2] := ⟨_, (N _ (List.mem_cons_of_mem _ (List.mem_cons_of_mem _ (hY _ hm)))).1, rfl, n, rfl⟩
  refine unpackN_ S.F N hT hh (by rw [ha]; rfl) (by rw [ha]; rfl) fun h' F' N' => ?_
  rw [ha]
  have S' : St c m ((C, oC) :: Z) k { s with heap := h' } := ⟨F', ⟨⟨t, nn, N'⟩, o⟩, S.k0⟩
  refine assignInOrder_cons (st_own hk hl S' off hC fun h2 tk2 oC2 S2 hC2 => ?_)
  refine assignInOrder_cons (st_own hk hl2 S2 off hC2 fun h3 tk3 oC3 S3 hC3 => ?_)
  refine assignInOrder_nil (ret h3 tk3 oC3 _ S3 hC3 (fun z hz => ?_) fun p hp => ?_)
  · simp only [List.map_cons, List.map_nil, List.mem_cons, List.not_mem_nil, or_false, not_or] at hz
    rw [if_neg hz.2, if_neg hz.1]
  · rcases List.mem_cons.mp hp with rfl | hp
    · exact ⟨v1, by rw [if_neg hxy, if_pos rfl], e1⟩
    · rw [List.mem_singleton.mp hp]
      exact ⟨v2, if_pos rfl, e2⟩
/-- what a comprehension may build: each item adds one datum or none -/
inductive Runs (S : Dat → Option Dat → Prop) : List Dat → List Dat → Prop
  | nil : Runs S [] []
  | skip {ds ys : List Dat} {d : Dat} : Runs S ds ys → S d none → Runs S (ds ++ [d]) ys
  | put {ds ys : List Dat} {d e : Dat} : Runs S ds ys → S d (some e) → Runs S (ds ++ [d]) (ys ++ [e])
theorem Runs.len {S : Dat → Option Dat → Prop} {ds ys : List Dat} (h : Runs S ds ys) : ys.length ≤ ds.length := by
  induction h with
  | nil => exact Nat.le_refl _
  | skip _ _ ih => rw [List.length_append]; omega
  | put _ _ ih => rw [List.length_append, List.length_append]; exact Nat.add_le_add_right ih _
theorem runs_flat {f : Dat → Option Dat} {ds ys : List Dat} (h : Runs (fun d o => o = f d) ds ys) : ys = ds.filterMap f := by
  induction h with
  | nil => rfl
  | skip _ hs ih => rw [List.filterMap_append, ← ih]; simp [← hs]
  | put _ hs ih => rw [List.filterMap_append, ← ih]; simp [← hs]
theorem take_snoc {ds : List Dat} {i : Nat} {d : Dat} (h : ds[i]? = some d) : ds.take (i + 1) = ds.take i ++ [d] := by rw [List.take_add_one, h]; rfl
abbrev testsT (env : Env) (ifs : List Expr) : Sem Bool := forIn ifs true fun c r => if r = true then do let ok ← isTrue c env (eval c env); pure (ForInStep.yield ok) else pure (ForInStep.yield r)
theorem ev_tests0 : Ev c R Y m 0 (testsT env []) (IsB true) := by
  intro s Z U k Q _ _ _ S _ ret
  exact jtests_nil (ret true [] k s.heap s.toks (by omega) S.self Fresh.nil rfl)
theorem ev_tests1 {e : Expr} {b : Nat} {P : Led → Bool → Prop} (h : Ev c R Y m b (isTrue e env (eval e env)) P) : Ev c R Y m b (testsT env [e]) P := by
  intro s Z U k Q hR hY hU S hk ret
  exact jtests_one (h s Z U k Q hR hY hU S hk ret)
/-- what the turns of a comprehension leave: the hand moved, new data W on top of Z, of which D holds -/
inductive InvC (c : Cx) (Z : Led) (b : Int) (D : Led → Prop) (nx : Led) : Prop
  | mk (W k' t n) (x0 : nx = (c.hand, listOf #[.ref c.sc, .int k' t] n) :: (W ++ Z)) (x1 : 0 ≤ k') (x2 : k' ≤ b) (x3 : Fresh W Z) (x4 : ∀ p ∈ W ++ Z, p.1 ≠ c.hand) (x5 : D W) : InvC c Z b D nx
theorem ev_comp1 {elt t0 i0 : Expr} {ifs : List Expr} {scope : Scope} {cl : List (Str × Addr)} {pos : Pos} {b0 b1 b2 NN : Nat} {PN : List Dat → Prop} {PE : Dat → Prop} {B : Dat → List (Str × Dat)} {T : Dat → Bool → Prop} {S : Dat → Option Dat → Prop}
    (hclos : closureFor scope env = pure cl) (hcell : ∀ y ∈ scope.names, y.2 ≠ .cell) (hkind : scope.kind = .function) (hnames : ∀ y ∈ scope.names, y.2 = .local → scope.names.lookup y.1 = some .local) (hs : ∀ x, foldedSetIterable i0 env x = pure x)
    (hi : EvX c R Y m b0 env i0 PN) (hl : ∀ ds, PN ds → ds.length ≤ NN ∧ ∀ d ∈ ds, PE d) (hNN : NN ≤ 1000) (tgt : ∀ d, PE d → Tgt c scope cl env t0 d (B d))
    (test : ∀ d, PE d → ∀ C oC m₂ Y', (∀ p ∈ Y, p ∈ Y') → LCg.NsObj oC m₂ → (∀ p ∈ B d, ∃ u, m₂ p.1 = some u ∧ DatIn Y' u p.2) → Ev c ((C, oC) :: R) Y' m b1 (testsT (compEnvC scope cl C env) ifs) (fun _ ok => T d ok))
    (elem : ∀ d, PE d → T d true → ∀ C oC m₂ Y', (∀ p ∈ Y, p ∈ Y') → LCg.NsObj oC m₂ → (∀ p ∈ B d, ∃ u, m₂ p.1 = some u ∧ DatIn Y' u p.2) → Ev c ((C, oC) :: R) Y' m b2 (eval elt (compEnvC scope cl C env)) (fun Y v => ∃ e, DatIn Y v e ∧ S d (some e)))
    (skip : ∀ d, PE d → T d false → S d none) :
    Ev c R Y m (b0 + NN * (b1 + b2)) (eval (.ListComp elt [⟨t0, i0, ifs, 0⟩] scope pos) env) (fun Y v => ∃ ds ys, PN ds ∧ Runs S ds ys ∧ DatIn Y v (.list ys)) := by
  intro s Z U k Q hR hY hU St0 hk ret
  refine jcomp1 St0.F hclos hcell hkind hnames ?_ hs
  refine hi s Z U k _ hR hY hU St0 (by omega) fun ds I cls keep V k1 h1 tk1 P' hPN J hP' hkeep hk1 S1 f1 lI hI => ?_
  obtain ⟨hlen, hPE⟩ := hl ds hPN
  obtain ⟨⟨t1, n1, N1⟩, o1⟩ := S1.N
  refine ⟨I, cls, ds.length, P', keep, m, _, fun i ys => InvC c (V ++ Z) (k1 + (i * (b1 + b2) : Nat)) fun W => ∃ zs, Runs S (ds.take i) zs ∧ DatAll (W ++ (V ++ U)) ys zs, rfl, J, S1.F, N1, ?_, ?_, ?_, ?_, ?_, ?_⟩
  · intro p hp
    rcases List.mem_cons.mp hp with rfl | hp
    · exact hI
    · exact lI p hp
  · rintro i ys nx ⟨W, k', t, n, rfl, _⟩ p hp
    exact List.mem_cons_of_mem _ (List.mem_append_right _ ((List.mem_append.mp (hkeep p hp)).elim (List.mem_append_left _) fun h => List.mem_append_right _ (hU p h)))
  · exact ⟨[], k1, t1, n1, rfl, S1.k0, by omega, Fresh.nil, o1, [], .nil, .nil⟩
  · rintro i ys nx ⟨W, k', t, n, rfl, _, _, _, _, zs, hr, hd⟩
    have := hr.len
    rw [hd.length]
    rw [List.length_take] at this
    omega
  · rintro i v ys nx h tk o D C oC m₂ nD hi' hv ⟨W, k', t, n, rfl, hk0, hk', fW, oW, zs, hr, hd⟩ ho hC F' N' oI oC' oD hID hDC
    obtain ⟨d, hdi, hdv⟩ := hP' i v hi' hv
    have hdm : PE d := hPE d (List.mem_of_getElem? hdi)
    have hle : (i + 1) * (b1 + b2) ≤ NN * (b1 + b2) := Nat.mul_le_mul_right _ (by omega)
    rw [Nat.add_mul, Nat.one_mul] at hle
    have S2 : St c m ((C, oC) :: ((I, o) :: (D, listOf (List.toArray ys) nD) :: (W ++ (V ++ Z)))) k' { s with heap := h, toks := tk } := by
      refine ⟨F', ⟨⟨t, n, jsub N' fun p hp => ?_⟩, fun p hp => ?_⟩, hk0⟩
      · simp only [List.mem_cons] at hp ⊢
        rcases hp with h | h | h | h | h <;> simp [h]
      · simp only [List.mem_cons] at hp
        rcases hp with h | h | h | h
        · rw [h]; exact (oC' _ List.mem_cons_self).symm
        · rw [h]; exact (oI _ List.mem_cons_self).symm
        · rw [h]; exact (oD _ List.mem_cons_self).symm
        · exact oW p h
    have offC : ∀ p ∈ (I, o) :: (D, listOf (List.toArray ys) nD) :: (W ++ (V ++ Z)), p.1 ≠ C := by
      intro p hp
      simp only [List.mem_cons] at hp
      rcases hp with h | h | h
      · rw [h]; exact Nat.ne_of_lt (Nat.lt_trans hID hDC)
      · rw [h]; exact Nat.ne_of_lt hDC
      · exact oC' p (List.mem_cons_of_mem _ h)
    have hUZ : ∀ p ∈ W ++ (V ++ U), p ∈ W ++ (V ++ Z) := fun p hp => by
      simp only [List.mem_append] at hp ⊢
      rcases hp with h | h | h
      · exact .inl h
      · exact .inr (.inl h)
      · exact .inr (.inr (hU p h))
    refine tgt d hdm _ _ (W ++ (V ++ U)) k' m C oC m₂ v _ S2 offC hC (fun p hp => List.mem_cons_of_mem _ (List.mem_cons_of_mem _ (hUZ p hp))) (hdv.mono fun p hp => List.mem_append_right _ hp) fun h3 tk3 oC3 m3 S3 hC3 _ hB3 => ?_
    have hZ3 : ∀ p ∈ (C, oC3) :: R, p ∈ (C, oC3) :: ((I, o) :: (D, listOf (List.toArray ys) nD) :: (W ++ (V ++ Z))) := fun p hp => by
      rcases List.mem_cons.mp hp with rfl | hp
      · exact List.mem_cons_self
      · exact List.mem_cons_of_mem _ (List.mem_cons_of_mem _ (List.mem_cons_of_mem _ (List.mem_append_right _ (List.mem_append_right _ (hR p hp)))))
    have hYU : ∀ p ∈ Y, p ∈ W ++ (V ++ U) := fun p hp => List.mem_append_right _ (List.mem_append_right _ (hY p hp))
    have fin : ∀ (X : Led) (k5 : Int) (h5 : Heap) (tk5 : Nat) (ys' zs' : _) , k5 ≤ k' + (b1 + b2 : Nat) → St c m (X ++ ((C, oC3) :: ((I, o) :: (D, listOf (List.toArray ys) nD) :: (W ++ (V ++ Z))))) k5 { s with heap := h5, toks := tk5 } → Fresh X ((C, oC3) :: ((I, o) :: (D, listOf (List.toArray ys) nD) :: (W ++ (V ++ Z)))) → Runs S (ds.take (i + 1)) zs' → DatAll (X ++ (W ++ (V ++ U))) ys' zs' →
        JE c.h₀ c.L m I o C D (listOf (List.toArray ys) nD) (InvC c (V ++ Z) (k1 + ((i + 1) * (b1 + b2) : Nat)) fun W => ∃ zs, Runs S (ds.take (i + 1)) zs ∧ DatAll (W ++ (V ++ U)) ys' zs) { s with heap := h, toks := tk } { s with heap := h5, toks := tk5 } := by
      intro X k5 h5 tk5 ys' zs' hk5 S5 f5 hr5 hd5
      obtain ⟨⟨t5, n5, N5⟩, o5⟩ := S5.N
      refine JE.intro ((c.hand, listOf #[.ref c.sc, .int k5 t5] n5) :: ((X ++ W) ++ (V ++ Z))) S5.F N5 ?_ hC3 ?_ ⟨X ++ W, k5, t5, n5, rfl, S5.k0, ?_, ?_, ?_, zs', hr5, by rw [List.append_assoc]; exact hd5⟩
      · intro p hp
        simp only [List.mem_cons, List.mem_append] at hp ⊢
        rcases hp with h | h | h | h | (h | h) | h | h <;> simp [h]
      · intro p hp
        rcases List.mem_cons.mp hp with rfl | hp
        · exact ⟨oI (c.hand, listOf #[.ref c.sc, .int k' t] n) List.mem_cons_self, oC' (c.hand, listOf #[.ref c.sc, .int k' t] n) List.mem_cons_self, oD (c.hand, listOf #[.ref c.sc, .int k' t] n) List.mem_cons_self⟩
        · rw [List.append_assoc] at hp
          rcases List.mem_append.mp hp with hx | hx
          · refine ⟨(f5 p hx (I, o) (by simp)).symm, (f5 p hx (C, oC3) (by simp)).symm, (f5 p hx (D, _) (List.mem_cons_of_mem _ (List.mem_cons_of_mem _ List.mem_cons_self))).symm⟩
          · exact ⟨oI p (List.mem_cons_of_mem _ hx), oC' p (List.mem_cons_of_mem _ hx), oD p (List.mem_cons_of_mem _ hx)⟩
      · rw [Nat.add_mul, Nat.one_mul]; omega
      · exact fW.app fun p hp q hq => f5 p hp q (List.mem_cons_of_mem _ (List.mem_cons_of_mem _ (List.mem_cons_of_mem _ hq)))
      · intro p hp
        rw [List.append_assoc] at hp
        exact o5 p ((List.mem_append.mp hp).elim (List.mem_append_left _) fun h => List.mem_append_right _ (List.mem_cons_of_mem _ (List.mem_cons_of_mem _ (List.mem_cons_of_mem _ h))))
    refine test d hdm C oC3 m3 (W ++ (V ++ U)) hYU hC3 hB3 _ _ (W ++ (V ++ U)) k' _ hZ3 (fun _ h => h) (fun p hp => List.mem_cons_of_mem _ (List.mem_cons_of_mem _ (List.mem_cons_of_mem _ (hUZ p hp)))) S3 (by omega) fun ok X k4 h4 tk4 hk4 S4 f4 hT => ?_
    cases ok with
    | false =>
      simp only [Bool.false_eq_true, if_false]
      exact fin X k4 h4 tk4 ys zs (by omega) S4 f4 (by rw [take_snoc hdi]; exact .skip hr (skip d hdm hT)) (hd.mono fun p hp => List.mem_append_right _ hp)
    | true =>
      simp only [if_true]
      refine elem d hdm hT C oC3 m3 (X ++ (W ++ (V ++ U))) (fun p hp => List.mem_append_right _ (hYU p hp)) hC3 (fun p hp => (hB3 p hp).imp fun u ⟨a, b⟩ => ⟨a, b.mono fun p hp => List.mem_append_right _ hp⟩) _ _ (X ++ (W ++ (V ++ U))) k4 _ (fun p hp => List.mem_append_right _ (hZ3 p hp)) (fun _ h => h)
        (fun p hp => (List.mem_append.mp hp).elim (List.mem_append_left _) fun h => List.mem_append_right _ (List.mem_cons_of_mem _ (List.mem_cons_of_mem _ (List.mem_cons_of_mem _ (hUZ p h))))) S4 (by omega) fun y X2 k5 h5 tk5 hk5 S5 f5 hy => ?_
      obtain ⟨e, he, hSe⟩ := hy
      refine fin (X2 ++ X) k5 h5 tk5 (ys ++ [y]) (zs ++ [e]) (by omega) (by rw [List.append_assoc]; exact S5) (f4.app f5) (by rw [take_snoc hdi]; exact .put hr hSe) ?_
      rw [List.append_assoc]
      exact (hd.mono fun p hp => List.mem_append_right _ (List.mem_append_right _ hp)).append (DatAll.one he)
  · rintro D ys nx h tk nD ⟨W, k', t, n, rfl, hk0, hk', fW, oW, zs, hr, hd⟩ F' N' oD lD
    rw [List.take_length] at hr
    have hle : ds.length * (b1 + b2) ≤ NN * (b1 + b2) := Nat.mul_le_mul_right _ hlen
    have lDl : ∀ p ∈ W ++ (V ++ Z), p.1 ≠ D := fun p hp => oD p (List.mem_cons_of_mem _ hp)
    refine ret (.ref D) ((D, listOf (List.toArray ys) nD) :: (W ++ V)) k' h tk (by omega) ⟨F', ⟨⟨t, n, jsub N' fun p hp => ?_⟩, fun p hp => ?_⟩, hk0⟩ ?_ ⟨ds, zs, hPN, hr, DatIn.list List.mem_cons_self (hd.mono fun p hp => ?_)⟩
    · simp only [List.cons_append, List.append_assoc, List.mem_cons] at hp ⊢
      rcases hp with h | h | h <;> simp [h]
    · simp only [List.cons_append, List.append_assoc, List.mem_cons] at hp
      rcases hp with h | h
      · rw [h]; exact (oD _ List.mem_cons_self).symm
      · exact oW p h
    · intro p hp q hq
      rcases List.mem_cons.mp hp with rfl | hp
      · exact lDl q (List.mem_append_right _ (List.mem_append_right _ hq))
      · exact (f1.app fW) p hp q hq
    · rw [List.cons_append, List.append_assoc]
      exact List.mem_cons_of_mem _ hp
end

end
section
section
variable {α β : Type} {c : Cx} {R Y : Led} {m : Str → Option Value} {cn : Str} {sc : Scope} {a : Addr} {ccd : Value} {cl : List (Str × Addr)}
/-- names of a frame: local or cell -/
theorem rd_local {x : Str} {v : Value} (hk : sc.kind = .function) (hx : (envX cn sc c.L a ccd cl).kindOf x = some .local) (hd : (x == ("__debug__" : Str)) = false) (hv : m x = some v) : Rd c R m (envX cn sc c.L a ccd cl) x v :=
  fun s Z k Q pos _ S q => nameX_L S.F hv q hk hx hd
theorem cells_at {ρ : Str → Option Value} {x : Str} {b : Addr} : ∀ {cl : List (Str × Addr)} {cs : Led}, CellsAre ρ cl cs → cl.lookup x = some b → ∃ o, (b, o) ∈ cs ∧ o.data = .cell (ρ x)
  | _, _, .nil, h => by cases h
  | _, _, .cons (n := n) (c := c') hd r, h => by
    rw [List.lookup_cons] at h
    by_cases e : x = n
    · subst e
      rw [beq_self_eq_true] at h
      cases h
      exact ⟨_, List.mem_cons_self, hd⟩
    · rw [beq_eq_false_iff_ne.mpr e] at h
      obtain ⟨o, h1, h2⟩ := cells_at r h
      exact ⟨o, List.mem_cons_of_mem _ h1, h2⟩
theorem rd_cell {x : Str} {v : Value} {b : Addr} {ρ : Str → Option Value} {cs : Led} (hk : sc.kind = .function) (hx : (envX cn sc c.L a ccd cl).kindOf x = some .cell) (hd : (x == ("__debug__" : Str)) = false) (C : CellsAre ρ cl cs) (hc : cl.lookup x = some b) (hR : ∀ p ∈ cs, p ∈ R) (hv : ρ x = some v) : Rd c R m (envX cn sc c.L a ccd cl) x v := by
  intro s Z k Q pos hZ S q
  obtain ⟨o, ho, hod⟩ := cells_at C hc
  exact nameX_C S.news hc (hZ _ (hR _ ho)) (hod.trans (by rw [hv])) q hk hx hd
/-- names of a comprehension: its own, captured, the top's, the interpreter's -/
theorem rd_own {x : Str} {v : Value} {scope : Scope} {cl' : List (Str × Addr)} {env : Env} {C : Addr} {oC : Obj} {m₂ : Str → Option Value} (hk : (compEnvC scope cl' C env).scope.kind = .function) (hx : (compEnvC scope cl' C env).kindOf x = some .local) (hd : (x == ("__debug__" : Str)) = false)
    (hm : (C, oC) ∈ R) (hC : LCg.NsObj oC m₂) (hv : m₂ x = some v) : Rd c R m (compEnvC scope cl' C env) x v :=
  fun s Z k Q pos hZ S q => LCgL.ld_own S.news (hZ _ hm) hC hv q hk hx hd
end
/-- the top, as a frame sees it -/
structure Tops (c : Cx) (mean : ExcName → Option Value) (mg mb : Str → Option Value) : Prop where
  X : (KK c.w.params).In c.h₀
  T : Top VV (looseW VV [Str.ofString "ConsumerProtocolSubscription", Str.ofString "RangePartitionAssignor"]) mean mg mb c.h₀
section
variable {α β : Type} {c : Cx} {R Y : Led} {m : Str → Option Value} {cn : Str} {sc : Scope} {a : Addr} {ccd : Value} {cl : List (Str × Addr)} {mean : ExcName → Option Value} {mg mb : Str → Option Value}
theorem rd_glob {x : Str} {v : Value} (G : Tops c mean mg mb) (e : nsIn (KK c.w.params) mainGlobals x = some (some v)) (hk : sc.kind = .function) (hx : (envX cn sc c.L a ccd cl).kindOf x = some .globalImplicit) (hd : (x == ("__debug__" : Str)) = false) : Rd c R m (envX cn sc c.L a ccd cl) x v :=
  fun s Z k Q pos _ S q => nameX_K S.F G.X (topRead_of G.T) e q hk hx hd
theorem rd_built {x : Str} {v : Value} (G : Tops c mean mg mb) (e : nsIn (KK c.w.params) mainGlobals x = some none) (hv : bootBuiltins x = some v) (hn : x ≠ "__name__") (hk : sc.kind = .function) (hx : (envX cn sc c.L a ccd cl).kindOf x = some .globalImplicit) (hd : (x == ("__debug__" : Str)) = false) : Rd c R m (envX cn sc c.L a ccd cl) x v :=
  fun s Z k Q pos _ S q => nameX_B S.F G.X (topRead_of G.T) e hv hn q hk hx hd
theorem rd_cglob {x : Str} {v : Value} {scope : Scope} {cl' : List (Str × Addr)} {env : Env} {C : Addr} (G : Tops c mean mg mb) (e : nsIn (KK c.w.params) mainGlobals x = some (some v)) (hg : env.globals = mainGlobals) (hk : (compEnvC scope cl' C env).scope.kind = .function) (hx : (compEnvC scope cl' C env).kindOf x = some .globalImplicit) (hd : (x == ("__debug__" : Str)) = false) :
    Rd c R m (compEnvC scope cl' C env) x v := fun s Z k Q pos _ S q => LCgL.ld_global S.F G.X G.T e q hg hk hx hd
theorem rd_cbuilt {x : Str} {v : Value} {scope : Scope} {cl' : List (Str × Addr)} {env : Env} {C : Addr} (G : Tops c mean mg mb) (e : nsIn (KK c.w.params) mainGlobals x = some none) (hv : bootBuiltins x = some v) (hn : x ≠ "__name__") (hg : env.globals = mainGlobals) (hb : env.builtins = builtinsNs) (hk : (compEnvC scope cl' C env).scope.kind = .function) (hx : (compEnvC scope cl' C env).kindOf x = some .globalImplicit) (hd : (x == ("__debug__" : Str)) = false) :
    Rd c R m (compEnvC scope cl' C env) x v := fun s Z k Q pos _ S q => LCgL.ld_built S.F G.X G.T e hv hn q hg hb hk hx hd
/-- a frame of the law between two statements: cells, what is held fixed, what is owned, the pool -/
inductive LS (c : Cx) (cl : List (Str × Addr)) (s0 : Shared) (ρ : Str → Option Value) (Fx M P : Led) (k : Int) (s : Shared) : Prop
  | mk (m cs h tk) (x0 : s = { s0 with heap := h, toks := tk }) (x1 : St c m ((cs ++ (Fx ++ M)) ++ P) k s) (x2 : CellsAre ρ cl cs) (x3 : ∀ x, cl.lookup x = none → m x = ρ x)
    (x4 : ((cs ++ (Fx ++ M)).map (·.1)).Nodup) (x5 : ∀ p ∈ P, ∀ q ∈ cs ++ (Fx ++ M), q.1 ≠ p.1) : LS c cl s0 ρ Fx M P k s
def upd (ρ : Str → Option Value) (x : Str) (v : Value) : Str → Option Value := fun y => if y = x then some v else ρ y
theorem upd_self {ρ : Str → Option Value} {x : Str} {v : Value} : upd ρ x v x = some v := if_pos rfl
theorem upd_ne {ρ : Str → Option Value} {x y : Str} {v : Value} (h : y ≠ x) : upd ρ x v y = ρ y := if_neg h
/-- an expression in such a frame -/
def EvL {α : Type} (c : Cx) (cl : List (Str × Addr)) (ρ : Str → Option Value) (Fx M P : Led) (b : Nat) (t : Sem α) (PP : Led → α → Prop) : Prop :=
  ∀ m cs, CellsAre ρ cl cs → (∀ x, cl.lookup x = none → m x = ρ x) → Ev c ((cs ++ (Fx ++ M)) ++ P) P m b t PP
variable {s0 s : Shared} {ρ : Str → Option Value} {Fx M P : Led} {k : Int}
theorem LS.eval {t : Sem α} {b : Nat} {PP : Led → α → Prop} {Q : α → Shared → Prop} (S : LS c cl s0 ρ Fx M P k s) (h : EvL c cl ρ Fx M P b t PP) (hk : k + b ≤ 890)
    (ret : ∀ v V k' s', k' ≤ k + b → LS c cl s0 ρ Fx M (V ++ P) k' s' → PP (V ++ P) v → Q v s') : wpAny (model PRG c.w) c.A t Q (fun _ _ => False) s := by
  obtain ⟨m, cs, hp, tk, rfl, St, C, hm, nd, dj⟩ := S
  refine h m cs C hm _ _ P k Q (fun _ h => h) (fun _ h => h) (fun p hp => List.mem_append_right _ hp) St hk fun v V k' h' tk' hk' S' f' p' => ret v V k' _ hk' ⟨m, cs, h', tk', rfl, S'.sub fun p hp => ?_, C, hm, nd, fun p hp q hq => ?_⟩ p'
  · simp only [List.mem_append] at hp ⊢
    rcases hp with h | h | h <;> simp [h]
  · rcases List.mem_append.mp hp with h | h
    · exact f' p h q (List.mem_append_left _ hq)
    · exact dj p h q hq
theorem cells_upd {x : Str} {v : Value} {b : Addr} : ∀ {cl : List (Str × Addr)} {cs : Led}, CellsAre ρ cl cs → (cl.map (·.1)).Nodup → cl.lookup x = some b → ∃ pre o post, cs = pre ++ (b, o) :: post ∧ o.data = .cell (ρ x) ∧ ∀ o', o'.data = .cell (some v) → CellsAre (upd ρ x v) cl (pre ++ (b, o') :: post)
  | _, _, .nil, _, h => by cases h
  | _, _, .cons (n := n) (c := c') (o := o) (cs := cs') (cells := cells) hd r, nd, h => by
    rw [List.map_cons, List.nodup_cons] at nd
    rw [List.lookup_cons] at h
    have keep : ∀ {l : List (Str × Addr)} {zs : Led}, CellsAre ρ l zs → x ∉ l.map (·.1) → CellsAre (upd ρ x v) l zs := by
      intro l zs hz
      induction hz with
      | nil => intro _; exact .nil
      | cons hd' _ ih =>
        intro hx
        simp only [List.map_cons, List.mem_cons, not_or] at hx
        exact .cons (hd'.trans (by rw [upd_ne (Ne.symm hx.1)])) (ih hx.2)
    by_cases e : x = n
    · subst e
      rw [beq_self_eq_true] at h
      cases h
      exact ⟨[], o, cells, rfl, hd, fun o' h' => .cons (h'.trans (by rw [upd_self])) (keep r nd.1)⟩
    · rw [beq_eq_false_iff_ne.mpr e] at h
      obtain ⟨pre, o2, post, rfl, h2, h3⟩ := cells_upd r nd.2 h
      exact ⟨(c', o) :: pre, o2, post, rfl, h2, fun o' h' => .cons (hd.trans (by rw [upd_ne (Ne.symm e)])) (h3 o' h')⟩
/-- a store -/
theorem LS.store {x : Str} {v : Value} {Q : Unit → Shared → Prop} (S : LS c cl s0 ρ Fx M P k s) (hk : sc.kind = .function) (hcl : (cl.map (·.1)).Nodup)
    (hx : ((envX cn sc c.L a ccd cl).kindOf x = some .local ∧ cl.lookup x = none) ∨ ((envX cn sc c.L a ccd cl).kindOf x = some .cell ∧ (cl.lookup x).isSome = true))
    (ret : ∀ s', LS c cl s0 (upd ρ x v) Fx M P k s' → Q () s') : wpAny (model PRG c.w) c.A (storeName (envX cn sc c.L a ccd cl) x v) Q (fun _ _ => False) s := by
  obtain ⟨m, cs, hp, tk, rfl, St, C, hm, nd, dj⟩ := S
  obtain ⟨⟨t, n, N⟩, o⟩ := St.N
  rcases hx with ⟨hx, hl⟩ | ⟨hx, hl⟩
  · refine storeX_L St.F N (fun h' F' N' => ret _ ⟨_, cs, h', _, rfl, ⟨F', ⟨⟨t, n, N'⟩, o⟩, St.k0⟩, ?_, fun y hy => ?_, nd, dj⟩) hk hx
    · have keep : ∀ {l : List (Str × Addr)} {zs : Led}, CellsAre ρ l zs → l.lookup x = none → CellsAre (upd ρ x v) l zs := by
        intro l zs hz
        induction hz with
        | nil => intro _; exact .nil
        | @cons n' c' o' cs' cells' hd' _ ih =>
          intro hx
          rw [List.lookup_cons] at hx
          by_cases e : x = n'
          · subst e
            rw [beq_self_eq_true] at hx
            cases hx
          · rw [beq_eq_false_iff_ne.mpr e] at hx
            exact .cons (hd'.trans (by rw [upd_ne (Ne.symm e)])) (ih hx)
      exact keep C hl
    · show (if y = x then some v else m y) = if y = x then some v else ρ y
      rw [hm y hy]
  · obtain ⟨b, hb⟩ := Option.isSome_iff_exists.mp hl
    obtain ⟨pre, oc, post, rfl, hoc, up⟩ := cells_upd (v := v) C hcl hb
    have key : ∀ q ∈ (c.hand, listOf #[.ref c.sc, .int k t] n) :: (((pre ++ (b, oc) :: post) ++ (Fx ++ M)) ++ P), True := fun _ _ => trivial
    have hhb : c.hand ≠ b := fun e => o (b, oc) (by simp) e.symm
    have nd' : ∀ p ∈ pre ++ (post ++ (Fx ++ M)), p.1 ≠ b := by
      intro p hp e
      simp only [List.map_append, List.map_cons, List.append_assoc, List.cons_append] at nd
      have nd2 := List.perm_middle.nodup_iff.mp nd
      rw [List.nodup_cons] at nd2
      exact nd2.1 (e ▸ (by simp only [← List.map_append]; exact List.mem_map.mpr ⟨p, hp, rfl⟩))
    have hpre : ∀ p ∈ (c.hand, listOf #[.ref c.sc, .int k t] n) :: pre, p.1 ≠ b := fun p hp => by
      rcases List.mem_cons.mp hp with rfl | hp
      · exact hhb
      · exact nd' p (List.mem_append_left _ hp)
    have hpost : ∀ p ∈ post ++ ((Fx ++ M) ++ P), p.1 ≠ b := fun p hp => by
      simp only [List.mem_append] at hp
      rcases hp with h | (h | h) | h
      · exact nd' p (by simp [h])
      · exact nd' p (by simp [h])
      · exact nd' p (by simp [h])
      · exact (dj p h (b, oc) (by simp)).symm
    have mk : ∀ {pr : Led}, (∀ p ∈ pr, p.1 ≠ b) → ∃ g, UpdF b oc (pr ++ (b, oc) :: (post ++ ((Fx ++ M) ++ P))) g ∧ ∀ o', g o' = pr ++ (b, o') :: (post ++ ((Fx ++ M) ++ P)) := by
      intro pr
      induction pr with
      | nil => intro _; exact ⟨_, .head hpost, fun _ => rfl⟩
      | cons p pr ih =>
        intro h
        obtain ⟨g, U, e⟩ := ih fun q hq => h q (List.mem_cons_of_mem _ hq)
        exact ⟨_, .tail (h p List.mem_cons_self) U, fun o' => by rw [e]; rfl⟩
    obtain ⟨g, U, eg⟩ := mk hpre
    have N2 : News c.h₀ c.L hp (((c.hand, listOf #[.ref c.sc, .int k t] n) :: pre) ++ (b, oc) :: (post ++ ((Fx ++ M) ++ P))) := by
      simpa only [List.append_assoc, List.cons_append] using N
    refine storeX_C St.F N2 hb U hoc (fun h' o' F' N' ho' => ret _ ⟨m, pre ++ (b, o') :: post, h', _, rfl, ⟨F', ⟨⟨t, n, ?_⟩, fun p hp => ?_⟩, St.k0⟩, up o' ho', fun y hy => ?_, ?_, fun p hp q hq => ?_⟩) hk hx
    · rw [eg] at N'
      simpa only [List.append_assoc, List.cons_append] using N'
    · simp only [List.mem_append, List.mem_cons] at hp
      have old : ∀ q, q ∈ (pre ++ (b, oc) :: post ++ (Fx ++ M)) ++ P → q.1 ≠ c.hand := o
      rcases hp with (((h | h | h) | h | h) | h)
      · exact old p (by simp [h])
      · rw [h]; exact old (b, oc) (by simp)
      · exact old p (by simp [h])
      · exact old p (by simp [h])
      · exact old p (by simp [h])
      · exact old p (by simp [h])
    · have : y ≠ x := fun e => by subst e; rw [hb] at hy; cases hy
      rw [upd_ne this]; exact hm y hy
    · simpa only [List.map_append, List.map_cons] using nd
    · simp only [List.mem_append, List.mem_cons] at hq
      rcases hq with ((h | h | h) | h)
      · exact dj p hp q (by simp [h])
      · rw [h]; exact dj p hp (b, oc) (by simp)
      · exact dj p hp q (by simp [h])
      · exact dj p hp q (by simp [h])
end

end
section
/-- what the turns of a loop leave of the frame, the owned and the pool -/
inductive InvF (c : Cx) (cl : List (Str × Addr)) (Fx P : Led) (E : Led → Prop) (J : (Str → Option Value) → Led → Led → Int → Prop) (m' : Str → Option Value) (nx : Led) : Prop
  | mk (cs' ρ' M' P2 k' t nn) (x0 : nx = (c.hand, listOf #[.ref c.sc, .int k' t] nn) :: ((cs' ++ (Fx ++ M')) ++ P2)) (x1 : 0 ≤ k') (x2 : CellsAre ρ' cl cs') (x3 : ∀ y, cl.lookup y = none → m' y = ρ' y) (x4 : ((cs' ++ (Fx ++ M')).map (·.1)).Nodup)
    (x5 : ∀ p ∈ P2, ∀ q ∈ cs' ++ (Fx ++ M'), q.1 ≠ p.1) (x6 : ∀ p ∈ (cs' ++ (Fx ++ M')) ++ P2, p.1 ≠ c.hand) (x7 : E nx) (x8 : ∀ p ∈ P, p ∈ P2) (x9 : J ρ' M' P2 k') : InvF c cl Fx P E J m' nx
section
variable {c : Cx} {cn : Str} {sc : Scope} {a : Addr} {ccd : Value} {cl : List (Str × Addr)} {s0 s : Shared} {ρ : Str → Option Value} {Fx M P : Led} {k : Int}
/-- how a name of the frame is held -/
def Held (c : Cx) (cn : Str) (sc : Scope) (a : Addr) (ccd : Value) (cl : List (Str × Addr)) (x : Str) : Prop :=
  ((envX cn sc c.L a ccd cl).kindOf x = some .local ∧ cl.lookup x = none) ∨ ((envX cn sc c.L a ccd cl).kindOf x = some .cell ∧ (cl.lookup x).isSome = true)
theorem ls_assign {x : Str} {p pos : Pos} {e : Expr} {rest : List Stmt} {b : Nat} {PP : Led → Value → Prop} {Q : Flow → Shared → Prop} (S : LS c cl s0 ρ Fx M P k s) (hk : sc.kind = .function) (hcl : (cl.map (·.1)).Nodup) (hx : Held c cn sc a ccd cl x)
    (hsw : swapsWith e (some (.Name x p)) pos.line (envX cn sc c.L a ccd cl) = pure false) (he : EvL c cl ρ Fx M P b (eval e (envX cn sc c.L a ccd cl)) PP) (hb : k + b ≤ 890)
    (next : ∀ v V k' s', k' ≤ k + b → LS c cl s0 (upd ρ x v) Fx M (V ++ P) k' s' → PP (V ++ P) v → wpAny (model PRG c.w) c.A (execs rest (envX cn sc c.L a ccd cl)) Q (fun _ _ => False) s') :
    wpAny (model PRG c.w) c.A (execs (.Assign [.Name x p] e pos :: rest) (envX cn sc c.L a ccd cl)) Q (fun _ _ => False) s :=
  wpAny_execs_cons (wpAny_Assign_Name (S.eval he hb fun v V k' s' hk' S' p' => S'.store hk hcl hx fun s2 S2 => next v V k' s2 hk' S2 p') hsw)
theorem ls_if {test : Expr} {thn rest : List Stmt} {pos : Pos} {b : Nat} {Q : Flow → Shared → Prop} {env : Env} (S : LS c cl s0 ρ Fx M P k s) (ht : EvL c cl ρ Fx M P b (isTrue test env (eval test env)) (IsB false)) (hb : k + b ≤ 890)
    (next : ∀ V k' s', k' ≤ k + b → LS c cl s0 ρ Fx M (V ++ P) k' s' → wpAny (model PRG c.w) c.A (execs rest env) Q (fun _ _ => False) s') :
    wpAny (model PRG c.w) c.A (execs (.If test thn [] pos :: rest) env) Q (fun _ _ => False) s :=
  wpAny_execs_cons (wpAny_If (S.eval ht hb fun v V k' s' hk' S' p' => by
    subst p'
    exact wpAny_execs_nil (next V k' s' hk' S')))
theorem ls_ret {e : Expr} {rest : List Stmt} {pos : Pos} {b : Nat} {PP : Led → Value → Prop} {Q : Flow → Shared → Prop} {env : Env} (S : LS c cl s0 ρ Fx M P k s) (he : EvL c cl ρ Fx M P b (eval e env) PP) (hb : k + b ≤ 890)
    (next : ∀ v V k' s', k' ≤ k + b → LS c cl s0 ρ Fx M (V ++ P) k' s' → PP (V ++ P) v → Q (.ret v) s') : wpAny (model PRG c.w) c.A (execs (.Return (some e) pos :: rest) env) Q (fun _ _ => False) s :=
  wpAny_execs_cons (wpAny_Return_some (S.eval he hb fun v V k' s' hk' S' p' => next v V k' s' hk' S' p'))
theorem ls_forG {ι : Type} {x : Str} {tp pos : Pos} {iter : Expr} {body rest : List Stmt} {b : Nat} {PN : ι → Prop} {len : ι → Nat} {PI : ι → Nat → Led → Value → Prop} {Q : Flow → Shared → Prop} (S : LS c cl s0 ρ Fx M P k s) (hk : sc.kind = .function) (hcl : (cl.map (·.1)).Nodup) (hx : Held c cn sc a ccd cl x)
    (hs : ∀ v, foldedSetIterable iter (envX cn sc c.L a ccd cl) v = pure v) (hi : ∀ m cs, CellsAre ρ cl cs → (∀ x, cl.lookup x = none → m x = ρ x) → EvG c ((cs ++ (Fx ++ M)) ++ P) P m b (envX cn sc c.L a ccd cl) iter PN len PI) (hb : k + b ≤ 890)
    (go : ∀ ds V k1, PN ds → k1 ≤ k + b → ∃ J : Nat → (Str → Option Value) → Led → Led → Int → Prop, J 0 ρ M (V ++ P) k1 ∧
      (∀ i v o I ρ' M' P' k' s', i < len ds → PI ds i (V ++ P) v → (∀ p ∈ V ++ P, p ∈ P') → J i ρ' M' P' k' → LS c cl s0 (upd ρ' x v) ((I, o) :: Fx) M' P' k' s' →
        wpAny (model PRG c.w) c.A (execs body (envX cn sc c.L a ccd cl)) (fun f s2 => f = .next ∧ ∃ ρ2 M2 P2 k2, LS c cl s0 ρ2 ((I, o) :: Fx) M2 P2 k2 s2 ∧ (∀ p ∈ P', p ∈ P2) ∧ J (i + 1) ρ2 M2 P2 k2) (fun _ _ => False) s') ∧
      (∀ ρ' M' P' k' s', (∀ p ∈ V ++ P, p ∈ P') → J (len ds) ρ' M' P' k' → LS c cl s0 ρ' Fx M' P' k' s' → wpAny (model PRG c.w) c.A (execs rest (envX cn sc c.L a ccd cl)) Q (fun _ _ => False) s')) :
    wpAny (model PRG c.w) c.A (execs (.For (.Name x tp) iter body [] pos :: rest) (envX cn sc c.L a ccd cl)) Q (fun _ _ => False) s := by
  refine wpAny_execs_cons ?_
  obtain ⟨m, cs, hp, tk, rfl, St0, C, hm, nd, dj⟩ := S
  refine jfor (L := c.L) St0.F ?_ hs
  refine hi m cs C hm _ _ P k _ (fun _ h => h) (fun _ h => h) (fun p hp => List.mem_append_right _ hp) St0 hb fun ds I cls keep V k1 h1 tk1 P' hPN J hP' hkeep hk1 S1 f1 lI hI => ?_
  obtain ⟨J', j0, turn, done⟩ := go ds V k1 hPN hk1
  obtain ⟨⟨t1, n1, N1⟩, o1⟩ := S1.N
  have own1 : ∀ p ∈ V ++ P, ∀ q ∈ cs ++ (Fx ++ M), q.1 ≠ p.1 := fun p hp q hq => by
    rcases List.mem_append.mp hp with h | h
    · exact f1 p h q (List.mem_append_left _ hq)
    · exact dj p h q hq
  refine ⟨I, cls, len ds, P', keep, m, _, fun i => InvF c cl Fx (V ++ P) (fun _ => True) (J' i),
    rfl, J, S1.F, jsub N1 (news' := (c.hand, listOf #[.ref c.sc, .int k1 t1] n1) :: ((cs ++ (Fx ++ M)) ++ (V ++ P))) (fun p hp => ?_), fun p hp => ?_, ?_, ?_, ?_, ?_⟩
  · simp only [List.mem_cons, List.mem_append] at hp ⊢
    rcases hp with h | (h | h | h) | h | h <;> simp [h]
  · rcases List.mem_cons.mp hp with rfl | hp
    · exact hI
    · refine lI p ?_
      simp only [List.mem_append] at hp ⊢
      rcases hp with (h | h | h) | h | h <;> simp [h]
  · rintro i m' nx ⟨cs', ρ', M', P2, k', t, nn, rfl, _, _, _, _, _, _, _, hsub, _⟩ p hp
    exact List.mem_cons_of_mem _ (List.mem_append_right _ (hsub p (hkeep p hp)))
  · refine ⟨cs, ρ, M, V ++ P, k1, t1, n1, rfl, S1.k0, C, hm, nd, own1, fun p hp => o1 p ?_, trivial, fun _ h => h, j0⟩
    simp only [List.mem_append] at hp ⊢
    rcases hp with (h | h | h) | h | h <;> simp [h]
  · rintro i v m' nx h tk' o hi' hv ⟨cs', ρ', M', P2, k', t, nn, rfl, hk0, C', hm', nd', dj', oh, _, hsub, hJ⟩ ho F' N' oI
    have nI : ∀ q ∈ cs' ++ (Fx ++ M'), q.1 ≠ I := fun q hq => oI q (List.mem_cons_of_mem _ (List.mem_append_left _ hq))
    have S2 : LS c cl s0 ρ' ((I, o) :: Fx) M' P2 k' { s0 with heap := h, toks := tk' } := by
      refine ⟨m', cs', h, tk', rfl, ⟨F', ⟨⟨t, nn, jsub N' fun p hp => ?_⟩, fun p hp => ?_⟩, hk0⟩, C', hm', ?_, fun p hp q hq => ?_⟩
      · simp only [List.mem_cons, List.mem_append, List.cons_append] at hp ⊢
        rcases hp with h | (h | h | h | h) | h <;> simp [h]
      · simp only [List.mem_cons, List.mem_append, List.cons_append] at hp
        rcases hp with (h | h | h | h) | h
        · exact oh p (by simp [h])
        · rw [h]; exact (oI _ List.mem_cons_self).symm
        · exact oh p (by simp [h])
        · exact oh p (by simp [h])
        · exact oh p (by simp [h])
      · have e : (cs' ++ (((I, o) :: Fx) ++ M')).map (·.1) = cs'.map (·.1) ++ I :: ((Fx ++ M').map (·.1)) := by simp
        rw [e]
        refine List.perm_middle.nodup_iff.mpr (List.nodup_cons.mpr ⟨fun hin => ?_, by simpa using nd'⟩)
        rw [← List.map_append] at hin
        obtain ⟨q, hq, e⟩ := List.mem_map.mp hin
        exact nI q hq e
      · simp only [List.mem_cons, List.mem_append, List.cons_append] at hq
        rcases hq with h | h | h | h
        · exact dj' p hp q (by simp [h])
        · rw [h]; exact (oI p (List.mem_cons_of_mem _ (List.mem_append_right _ hp))).symm
        · exact dj' p hp q (by simp [h])
        · exact dj' p hp q (by simp [h])
    refine assign_Name (S2.store hk hcl hx fun s3 S3 => wpAny_mono (turn i v o I ρ' M' P2 k' s3 hi' (hP' i v hi' hv) hsub hJ S3) (fun f s4 h4 => ?_) fun _ _ e => e)
    obtain ⟨rfl, ρ4, M4, P4, k4, L4, hs4, hJ4⟩ := h4
    obtain ⟨m4, cs4, hp4, tk4, rfl, St4, C4, hm4, nd4, dj4⟩ := L4
    obtain ⟨⟨t4, n4, N4⟩, o4⟩ := St4.N
    have nI4 : ∀ q ∈ cs4 ++ (Fx ++ M4), q.1 ≠ I := by
      have e : (cs4 ++ (((I, o) :: Fx) ++ M4)).map (·.1) = cs4.map (·.1) ++ I :: ((Fx ++ M4).map (·.1)) := by simp
      rw [e] at nd4
      have := (List.nodup_cons.mp (List.perm_middle.nodup_iff.mp nd4)).1
      rw [← List.map_append] at this
      exact fun q hq e => this (List.mem_map.mpr ⟨q, hq, e⟩)
    refine JFEnd.intro ((c.hand, listOf #[.ref c.sc, .int k4 t4] n4) :: ((cs4 ++ (Fx ++ M4)) ++ P4)) St4.F N4 (fun p hp => ?_) (fun p hp => ?_) ⟨cs4, ρ4, M4, P4, k4, t4, n4, rfl, St4.k0, C4, hm4, ?_, fun p hp q hq => ?_, fun p hp => o4 p ?_, trivial, fun p hp => hs4 p (hsub p hp), hJ4⟩
    · simp only [List.mem_cons, List.mem_append, List.cons_append] at hp ⊢
      rcases hp with h | h | (h | h | h) | h <;> simp [h]
    · rcases List.mem_cons.mp hp with rfl | hp
      · exact (o4 (I, o) (by simp)).symm
      · rcases List.mem_append.mp hp with h | h
        · exact nI4 p h
        · exact (dj4 p h (I, o) (by simp)).symm
    · have e : (cs4 ++ (((I, o) :: Fx) ++ M4)).map (·.1) = cs4.map (·.1) ++ I :: ((Fx ++ M4).map (·.1)) := by simp
      rw [e] at nd4
      have := (List.nodup_cons.mp (List.perm_middle.nodup_iff.mp nd4)).2
      rwa [← List.map_append] at this
    · exact dj4 p hp q (by
        simp only [List.mem_cons, List.mem_append, List.cons_append] at hq ⊢
        rcases hq with h | h | h <;> simp [h])
    · simp only [List.mem_cons, List.mem_append, List.cons_append] at hp ⊢
      rcases hp with (h | h | h) | h <;> simp [h]
  · rintro h tk' m' nx ⟨cs', ρ', M', P2, k', t, nn, rfl, hk0, C', hm', nd', dj', oh, _, hsub, hJ⟩ F' N'
    exact done ρ' M' P2 k' _ hsub hJ ⟨m', cs', h, tk', rfl, ⟨F', ⟨⟨t, nn, N'⟩, oh⟩, hk0⟩, C', hm', nd', dj'⟩
theorem ls_for {x : Str} {tp pos : Pos} {iter : Expr} {body rest : List Stmt} {b : Nat} {PN : List Dat → Prop} {Q : Flow → Shared → Prop} (S : LS c cl s0 ρ Fx M P k s) (hk : sc.kind = .function) (hcl : (cl.map (·.1)).Nodup) (hx : Held c cn sc a ccd cl x)
    (hs : ∀ v, foldedSetIterable iter (envX cn sc c.L a ccd cl) v = pure v) (hi : ∀ m cs, CellsAre ρ cl cs → (∀ x, cl.lookup x = none → m x = ρ x) → EvX c ((cs ++ (Fx ++ M)) ++ P) P m b (envX cn sc c.L a ccd cl) iter PN) (hb : k + b ≤ 890)
    (go : ∀ ds V k1, PN ds → k1 ≤ k + b → ∃ J : Nat → (Str → Option Value) → Led → Led → Int → Prop, J 0 ρ M (V ++ P) k1 ∧
      (∀ i v o I ρ' M' P' k' s', i < ds.length → ItemsD ds i (V ++ P) v → (∀ p ∈ V ++ P, p ∈ P') → J i ρ' M' P' k' → LS c cl s0 (upd ρ' x v) ((I, o) :: Fx) M' P' k' s' →
        wpAny (model PRG c.w) c.A (execs body (envX cn sc c.L a ccd cl)) (fun f s2 => f = .next ∧ ∃ ρ2 M2 P2 k2, LS c cl s0 ρ2 ((I, o) :: Fx) M2 P2 k2 s2 ∧ (∀ p ∈ P', p ∈ P2) ∧ J (i + 1) ρ2 M2 P2 k2) (fun _ _ => False) s') ∧
      (∀ ρ' M' P' k' s', (∀ p ∈ V ++ P, p ∈ P') → J ds.length ρ' M' P' k' → LS c cl s0 ρ' Fx M' P' k' s' → wpAny (model PRG c.w) c.A (execs rest (envX cn sc c.L a ccd cl)) Q (fun _ _ => False) s')) :
    wpAny (model PRG c.w) c.A (execs (.For (.Name x tp) iter body [] pos :: rest) (envX cn sc c.L a ccd cl)) Q (fun _ _ => False) s :=
  ls_forG (PN := PN) (len := List.length) (PI := ItemsD) S hk hcl hx hs hi hb go
end

end
section
section
variable {prog : Program} {w : World} {A : Around} {E : Value → Shared → Prop} {s : Shared} {h₀ : Heap} {L : Addr} {m : Str → Option Value} {news : List (Addr × Obj)}
/-- a slice of whatever expression -/
theorem slice_any {value slice : Expr} {l : Addr} {vs : List Value} {vl vu : Value} {lo hi : Option Int} {Q : Value → Shared → Prop} {ops : List Value}
    (F : Fr h₀ L s.heap m) (N : News h₀ L s.heap news) (hl : s.heap.IsList l vs.toArray) (pl : IsPart vl lo) (pu : IsPart vu hi) (hz : vs.length ≤ 1000)
    (h : ∀ D h', Fr h₀ L h' m → News h₀ L h' ((D, listOf (List.toArray (kms_pick vs lo hi)) 0) :: news) → (∀ p ∈ news, p.1 < D) → Q (.ref D) { s with heap := h' })
    (hs : subscripted slice false (.ref l) (.ref s.heap.objs.size) = operate ops (getItem (.ref l) (.ref s.heap.objs.size))) :
    wpAny (model prog w) A (subscriptTail value slice (.ref l) (.ref s.heap.objs.size)) Q E { s with heap := s.heap.push { cls := .type "slice", data := .fields #[vl, vu, .none] } } := by
  refine tail_any (Heap.IsList.typeIs (s := { s with heap := s.heap.push { cls := .type "slice", data := .fields #[vl, vu, .none] } }) (hl.push _)) list_getitem_lookup
    (wpAny_getItem_list_slice (hl.push _) (Heap.IsSliceOf.new ..) pl pu .none (by simp) ?_ (by rw [List.size_toArray, sizeLine_eq]; omega)) hs
  have N1 := News.push (F.push { cls := .type "slice", data := .fields #[vl, vu, .none] }) (N.grown fun _ _ e => Heap.get?_push_of_some _ e) { cls := .type "list", data := .seq (slicePick vs.toArray lo hi none) }
  rw [Heap.size_push] at N1
  show Q (.ref (s.heap.push _).objs.size) _
  rw [Heap.size_push]
  have ep : slicePick vs.toArray lo hi none = (kms_pick vs lo hi).toArray := kms_pick_eq vs.toArray lo hi
  rw [ep] at N1 ⊢
  exact h _ _ ((F.push _).push _) N1 fun p hp => Nat.lt_succ_of_lt (Heap.lt_size (N p hp).1)
end
theorem pick_to (vs : List Value) (j : Nat) : kms_pick vs none (some (j : Int)) = vs.take j := by
  unfold kms_pick kms_lo kms_hi
  dsimp only
  rw [if_neg (by omega)]
  have e1 : ((j : Int)).toNat = j := by omega
  rw [e1, List.drop_zero, Nat.sub_zero]
  by_cases h : j ≤ vs.length
  · rw [Nat.min_eq_left h]
  · rw [Nat.min_eq_right (by omega), List.take_length, List.take_of_length_le (by omega)]
theorem pick_from (vs : List Value) (j : Nat) : kms_pick vs (some (j : Int)) none = vs.drop j := by
  unfold kms_pick kms_lo kms_hi
  dsimp only
  rw [if_neg (by omega)]
  have e1 : ((j : Int)).toNat = j := by omega
  rw [e1]
  by_cases h : j ≤ vs.length
  · rw [Nat.min_eq_left h, List.take_of_length_le (by rw [List.length_drop]; omega)]
  · rw [Nat.min_eq_right (by omega), Nat.sub_self, List.take_zero, List.drop_of_length_le (by omega)]
/-- draws -/
inductive DeepX (c : Cx) : Prop
  | mk (dp un gd cn cs a ccd cl outer A₀ base) (x0 : c.A = ktrTop dp un gd cn cs c.L a ccd cl outer) (x1 : Below A₀ base outer c.h₀) (x2 : cs.kind = .function) (x3 : dp + 8 < recursionLimit) (x4 : un + 80 < cLine) : DeepX c
structure Deep (c : Cx) (mean : ExcName → Option Value) (mg mb : Str → Option Value) : Prop extends Tops c mean mg mb where
  deep : DeepX c
  script : ∃ vs ns, c.h₀.IsList c.sc (List.toArray vs) ∧ IntsAre vs ns ∧ ns.length ≤ 63
section
variable {c : Cx} {R Y : Led} {m : Str → Option Value} {env : Env} {mean : ExcName → Option Value} {mg mb : Str → Option Value}
theorem Deep.hh (D : Deep c mean mg mb) : c.A.handled = none := by
  obtain ⟨dp, un, gd, cn, cs, a, ccd, cl, outer, A₀, base, e, _⟩ := D.deep
  rw [e]
theorem Deep.hu (D : Deep c mean mg mb) : c.A.units + 64 < cLine := by
  obtain ⟨dp, un, gd, cn, cs, a, ccd, cl, outer, A₀, base, e, _, _, _, h⟩ := D.deep
  rw [e]
  show un + 64 < cLine
  omega
theorem ec_next {many : Int} {t : Tok} (D : Deep c mean mg mb) (h1 : 0 < many) (h2 : many < 100) : Ev c R Y m 1 (call (.ref 189) [.ref c.hand, .int many t]) (fun _ v => ∃ r t, v = .int r t ∧ 0 ≤ r ∧ r < many) := by
  intro s Z U k Q _ _ hU S hb ret
  obtain ⟨dp, un, gd, cn, cs, a, ccd, cl, outer, A₀, base, e, B, hk, hd, hu⟩ := D.deep
  obtain ⟨vs, ns, hsc, hi, hl⟩ := D.script
  obtain ⟨⟨t0, n, N⟩, o⟩ := S.N
  rw [e]
  refine next_spec B S.F D.X N D.T hk o hsc hi hl h1 h2 S.k0 (by omega) (by omega) (by omega) fun r t t' n' h' tk' r0 r1 F' N' => ?_
  exact ret _ [] (k + 1) h' tk' (by omega) ⟨F', ⟨⟨t', n', N'⟩, o⟩, by have := S.k0; omega⟩ Fresh.nil ⟨r, t, rfl, r0, r1⟩
theorem perm_dat {Z : Led} {vs us : List Value} (h : us.Perm vs) : ∀ {ds : List Dat}, DatAll Z vs ds → ∃ es, es.Perm ds ∧ DatAll Z us es := by
  induction h with
  | nil => intro ds h; cases h; exact ⟨[], .nil, .nil⟩
  | cons x _ ih =>
    intro ds h
    cases h with
    | cons h1 h2 =>
      obtain ⟨es, p, q⟩ := ih h2
      exact ⟨_ :: es, p.cons _, .cons h1 q⟩
  | swap x y l =>
    intro ds h
    cases h with
    | cons h1 h2 =>
      cases h2 with
      | cons h2 h3 => exact ⟨_, .swap _ _ _, .cons h2 (.cons h1 h3)⟩
  | trans _ _ ih1 ih2 =>
    intro ds h
    obtain ⟨es, p, q⟩ := ih2 h
    obtain ⟨fs, p2, q2⟩ := ih1 q
    exact ⟨fs, p2.trans p, q2⟩
theorem ec_mixed {v : Value} {ds : List Dat} (D : Deep c mean mg mb) (hv : DatIn Y v (.list ds)) (hz : ds.length ≤ 60) : Ev c R Y m ds.length (call (.ref 196) [.ref c.hand, v]) (fun Y v => ∃ es, es.Perm ds ∧ DatIn Y v (.list es)) := by
  intro s Z U k Q _ hY hU S hb ret
  obtain ⟨a', us, nr, rfl, hm, hall⟩ := dlist hv
  obtain ⟨dp, un, gd, cn, cs, a, ccd, cl, outer, A₀, base, e, B, hk, hd, hu⟩ := D.deep
  obtain ⟨vs, ns, hsc, hi, hl⟩ := D.script
  obtain ⟨⟨t0, n, N⟩, o⟩ := S.N
  rw [e]
  have el := hall.length
  have k0 := S.k0
  refine mixed_spec B S.F D.X N D.T hk o hsc hi hl (hU _ (hY _ hm)) (by omega) S.k0 (by omega) (by omega) (by omega) fun DD fs t' n' nD h' tk' pm F' N' l1 l2 => ?_
  obtain ⟨es, p, q⟩ := perm_dat pm hall
  refine ret (.ref DD) [(DD, listOf (List.toArray fs) nD)] (k + us.length) h' tk' (by omega) ⟨F', ⟨⟨t', n', jsub N' fun p hp => ?_⟩, fun p hp => ?_⟩, by omega⟩ (fun p hp q hq => ?_) ⟨es, p, DatIn.list List.mem_cons_self (q.mono fun p hp => List.mem_cons_of_mem _ (hY p hp))⟩
  · simp only [List.mem_cons, List.cons_append, List.nil_append] at hp ⊢
    rcases hp with h | h | h <;> simp [h]
  · rcases List.mem_cons.mp hp with rfl | hp
    · exact (Nat.ne_of_lt l1).symm
    · exact o p hp
  · rw [List.mem_singleton.mp hp]
    exact Nat.ne_of_lt (l2 q hq)
theorem ev_upto {e u : Expr} {p pos : Pos} {b1 b2 : Nat} {PD : List Dat → Prop} {P : Nat → Prop} (h1 : Ev c R Y m b1 (eval e env) (fun Y v => ∃ ds, PD ds ∧ DatIn Y v (.list ds))) (hz : ∀ ds, PD ds → ds.length ≤ 1000) (h2 : Ev c R Y m b2 (eval u env) (fun _ v => ∃ (j : Nat) (t : Tok), v = .int (j : Int) t ∧ P j))
    (hs : ∀ o v, subscripted (.Slice none (some u) none p) false o v = operate [v, o] (getItem o v)) :
    Ev c R Y m (b1 + b2) (eval (.Subscript e (.Slice none (some u) none p) pos) env) (fun Y v => ∃ ds j, PD ds ∧ P j ∧ DatIn Y v (.list (ds.take j))) := by
  intro s Z U k Q hR hY hU S hk ret
  refine Subscript_ ?_
  refine h1 s Z U k _ hR hY hU S (by omega) fun v V k1 hp1 tk1 hk1 S1 f1 p1 => ?_
  refine wpAny_Slice (wpAny_evalPart_none (wpAny_evalPart_some ?_))
  refine h2 _ (V ++ Z) (V ++ U) k1 _ (fun p hp => List.mem_append_right _ (hR p hp)) (fun p hp => List.mem_append_right _ (hY p hp)) (fun p hp => (List.mem_append.mp hp).elim (List.mem_append_left _) fun h => List.mem_append_right _ (hU p h)) S1 (by omega) fun u V2 k2 hp2 tk2 hk2 S2 f2 p2 => ?_
  obtain ⟨j, tj, rfl, hj⟩ := p2
  refine wpAny_evalPart_none ?_
  obtain ⟨ds, hds, p1⟩ := p1
  have hz := hz ds hds
  obtain ⟨l, vs, n, rfl, hm, hall⟩ := dlist p1
  have hm' : _ ∈ V2 ++ (V ++ Z) := List.mem_append_right _ ((List.mem_append.mp hm).elim (List.mem_append_left _) fun h => List.mem_append_right _ (hU _ h))
  obtain ⟨hd, hh, N⟩ := S2.hd
  have hlv := hall.length
  refine slice_any S2.F N (jIsL N (List.mem_cons_of_mem _ hm')) .none (.int _ _) (by omega) (fun D h' F' N' l1 => ?_) (hs _ _)
  rw [pick_to] at N'
  refine Ev.made (P := fun Y v => ∃ ds j, PD ds ∧ P j ∧ DatIn Y v (.list (ds.take j))) (U := V2 ++ (V ++ U)) (b := 0) (tk' := tk2) S2 hh F' N' l1 ⟨ds, j, hds, hj, DatIn.list List.mem_cons_self ((datAll_take j hall).mono fun p hp => List.mem_cons_of_mem _ (List.mem_append_right _ hp))⟩ fun v V3 k3 h3 tk3 hk3 S3 f3 p3 => ?_
  refine ret v (V3 ++ V2 ++ V) k3 h3 tk3 (by omega) ?_ ?_ ?_
  · rw [List.append_assoc, List.append_assoc]; exact S3
  · exact f1.app (by
      intro p hp q hq
      rcases List.mem_append.mp hp with h | h
      · exact f3 p h q (List.mem_append_right _ hq)
      · exact f2 p h q hq)
  · rw [List.append_assoc, List.append_assoc]; exact p3
theorem ev_from {e u : Expr} {p pos : Pos} {b1 b2 j : Nat} {ds : List Dat} (h1 : Ev c R Y m b1 (eval e env) (IsD (.list ds))) (hz : ds.length ≤ 1000) (h2 : Ev c R Y m b2 (eval u env) (IsD (.int (j : Int))))
    (hs : ∀ o v, subscripted (.Slice (some u) none none p) false o v = operate [v, o] (getItem o v)) :
    Ev c R Y m (b1 + b2) (eval (.Subscript e (.Slice (some u) none none p) pos) env) (IsD (.list (ds.drop j))) := by
  intro s Z U k Q hR hY hU S hk ret
  refine Subscript_ ?_
  refine h1 s Z U k _ hR hY hU S (by omega) fun v V k1 hp1 tk1 hk1 S1 f1 p1 => ?_
  refine wpAny_Slice (wpAny_evalPart_some ?_)
  refine h2 _ (V ++ Z) (V ++ U) k1 _ (fun p hp => List.mem_append_right _ (hR p hp)) (fun p hp => List.mem_append_right _ (hY p hp)) (fun p hp => (List.mem_append.mp hp).elim (List.mem_append_left _) fun h => List.mem_append_right _ (hU p h)) S1 (by omega) fun u V2 k2 hp2 tk2 hk2 S2 f2 p2 => ?_
  obtain ⟨tj, rfl⟩ := dint p2
  refine wpAny_evalPart_none (wpAny_evalPart_none ?_)
  obtain ⟨l, vs, n, rfl, hm, hall⟩ := dlist p1
  have hm' : _ ∈ V2 ++ (V ++ Z) := List.mem_append_right _ ((List.mem_append.mp hm).elim (List.mem_append_left _) fun h => List.mem_append_right _ (hU _ h))
  obtain ⟨hd, hh, N⟩ := S2.hd
  have hlv := hall.length
  refine slice_any S2.F N (jIsL N (List.mem_cons_of_mem _ hm')) (.int _ _) .none (by omega) (fun D h' F' N' l1 => ?_) (hs _ _)
  rw [pick_from] at N'
  refine Ev.made (P := IsD (.list (ds.drop j))) (U := V2 ++ (V ++ U)) (b := 0) (tk' := tk2) S2 hh F' N' l1 (DatIn.list List.mem_cons_self ((datAll_drop j hall).mono fun p hp => List.mem_cons_of_mem _ (List.mem_append_right _ hp))) fun v V3 k3 h3 tk3 hk3 S3 f3 p3 => ?_
  refine ret v (V3 ++ V2 ++ V) k3 h3 tk3 (by omega) ?_ ?_ ?_
  · rw [List.append_assoc, List.append_assoc]; exact S3
  · exact f1.app (by
      intro p hp q hq
      rcases List.mem_append.mp hp with h | h
      · exact f3 p h q (List.mem_append_right _ hq)
      · exact f2 p h q hq)
  · rw [List.append_assoc, List.append_assoc]; exact p3
end

end
section
section
variable {c : Cx} {R Y : Led} {m : Str → Option Value} {env : Env}
theorem flat_take {ds : List Dat} {F : Dat → List Dat} {i : Nat} {d : Dat} (h : ds[i]? = some d) : (ds.take (i + 1)).flatMap F = (ds.take i).flatMap F ++ F d := by
  rw [take_snoc h, List.flatMap_append]; simp
theorem flat_le {ds : List Dat} {F : Dat → List Dat} (i : Nat) : ((ds.take i).flatMap F).length ≤ (ds.flatMap F).length := by
  conv => rhs; rw [← List.take_append_drop i ds, List.flatMap_append, List.length_append]
  omega
theorem filt_step {es : List Dat} {T : Dat → Bool} {g : Dat → Dat} {j : Nat} {e : Dat} (h : es[j]? = some e) : ((es.take (j + 1)).filter T).map g = ((es.take j).filter T).map g ++ (if T e = true then [g e] else []) := by
  rw [take_snoc h, List.filter_append, List.map_append]
  cases hT : T e <;> simp [hT]
theorem filt_le {es : List Dat} {T : Dat → Bool} {g : Dat → Dat} (j : Nat) : (((es.take j).filter T).map g).length ≤ ((es.filter T).map g).length := by
  conv => rhs; rw [← List.take_append_drop j es, List.filter_append, List.map_append, List.length_append]
  omega
/-- a comprehension with two clauses -/
theorem ev_comp2 {elt t0 i0 t1 i1 : Expr} {ifs1 : List Expr} {scope : Scope} {cl : List (Str × Addr)} {pos : Pos} {b0 : Nat} {ds : List Dat} {es : Dat → List Dat} {B0 B1 : Dat → List (Str × Dat)} {T : Dat → Dat → Bool} {g : Dat → Dat → Dat}
    (hclos : closureFor scope env = pure cl) (hcell : ∀ y ∈ scope.names, y.2 ≠ .cell) (hkind : scope.kind = .function) (hnames : ∀ y ∈ scope.names, y.2 = .local → scope.names.lookup y.1 = some .local) (hs : ∀ x, foldedSetIterable i0 env x = pure x) (hs1 : ∀ C x, foldedSetIterable i1 (compEnvC scope cl C env) x = pure x)
    (hi : EvI c R Y m b0 env i0 ds.length (ItemsD ds)) (hl : (ds.flatMap fun d => ((es d).filter (T d)).map (g d)).length ≤ 1000) (tgt : ∀ d ∈ ds, Tgt c scope cl env t0 d (B0 d)) (tgt1 : ∀ d ∈ ds, ∀ e ∈ es d, Tgt c scope cl env t1 e (B1 e))
    (hdis : ∀ d e, ∀ p ∈ B0 d, p.1 ∉ (B1 e).map (·.1))
    (inner : ∀ d ∈ ds, ∀ C oC m₂ Y', (∀ p ∈ Y, p ∈ Y') → LCg.NsObj oC m₂ → (∀ p ∈ B0 d, ∃ u, m₂ p.1 = some u ∧ DatIn Y' u p.2) → EvI c ((C, oC) :: R) Y' m 0 (compEnvC scope cl C env) i1 (es d).length (ItemsD (es d)))
    (test : ∀ d ∈ ds, ∀ e ∈ es d, ∀ C oC m₂ Y', (∀ p ∈ Y, p ∈ Y') → LCg.NsObj oC m₂ → (∀ p ∈ B0 d, ∃ u, m₂ p.1 = some u ∧ DatIn Y' u p.2) → (∀ p ∈ B1 e, ∃ u, m₂ p.1 = some u ∧ DatIn Y' u p.2) → Ev c ((C, oC) :: R) Y' m 0 (testsT (compEnvC scope cl C env) ifs1) (IsB (T d e)))
    (elem : ∀ d ∈ ds, ∀ e ∈ es d, T d e = true → ∀ C oC m₂ Y', (∀ p ∈ Y, p ∈ Y') → LCg.NsObj oC m₂ → (∀ p ∈ B0 d, ∃ u, m₂ p.1 = some u ∧ DatIn Y' u p.2) → (∀ p ∈ B1 e, ∃ u, m₂ p.1 = some u ∧ DatIn Y' u p.2) → Ev c ((C, oC) :: R) Y' m 0 (eval elt (compEnvC scope cl C env)) (IsD (g d e))) :
    Ev c R Y m b0 (eval (.ListComp elt [⟨t0, i0, [], 0⟩, ⟨t1, i1, ifs1, 0⟩] scope pos) env) (IsD (.list (ds.flatMap fun d => ((es d).filter (T d)).map (g d)))) := by
  intro s Z U k Q hR hY hU St0 hk ret
  refine jcomp2 St0.F hclos hcell hkind hnames ?_ hs hs1
  refine hi s Z U k _ hR hY hU St0 (by omega) fun I cls keep V k1 h1 tk1 P' J hP' hkeep hk1 S1 f1 lI hI => ?_
  obtain ⟨⟨t1', n1, N1⟩, o1⟩ := S1.N
  have hUV : ∀ p ∈ V ++ U, p ∈ V ++ Z := fun p hp => (List.mem_append.mp hp).elim (List.mem_append_left _) fun h => List.mem_append_right _ (hU p h)
  refine ⟨I, cls, ds.length, P', keep, m, _, fun i ys => InvC c (V ++ Z) k1 fun W => DatAll (W ++ (V ++ U)) ys ((ds.take i).flatMap fun d => ((es d).filter (T d)).map (g d)), rfl, J, S1.F, N1, ?_, ?_, ?_, ?_, ?_, ?_⟩
  · intro p hp
    rcases List.mem_cons.mp hp with rfl | hp
    · exact hI
    · exact lI p hp
  · rintro i ys nx ⟨W, k', t, n, rfl, _⟩ p hp
    exact List.mem_cons_of_mem _ (List.mem_append_right _ (hUV p (hkeep p hp)))
  · exact ⟨[], k1, t1', n1, rfl, S1.k0, by omega, Fresh.nil, o1, .nil⟩
  · rintro i ys nx ⟨W, k', t, n, rfl, _, _, _, _, hd⟩
    rw [hd.length]
    exact Nat.le_trans (flat_le i) hl
  · rintro i v ys nx h tk o D C oC m₂ nD hi' hv ⟨W, k', t, n, rfl, hk0, hk', fW, oW, hd⟩ ho hC F' N' oI oC' oD hID hDC
    obtain ⟨d, hdi, hdv⟩ := hP' i v hi' hv
    have hdm : d ∈ ds := List.mem_of_getElem? hdi
    have hUZ : ∀ p ∈ W ++ (V ++ U), p ∈ W ++ (V ++ Z) := fun p hp => (List.mem_append.mp hp).elim (List.mem_append_left _) fun h => List.mem_append_right _ (hUV p h)
    have S2 : St c m ((C, oC) :: ((I, o) :: (D, listOf (List.toArray ys) nD) :: (W ++ (V ++ Z)))) k' { s with heap := h, toks := tk } := by
      refine ⟨F', ⟨⟨t, n, jsub N' fun p hp => ?_⟩, fun p hp => ?_⟩, hk0⟩
      · simp only [List.mem_cons] at hp ⊢
        rcases hp with h | h | h | h | h <;> simp [h]
      · simp only [List.mem_cons] at hp
        rcases hp with h | h | h | h
        · rw [h]; exact (oC' _ List.mem_cons_self).symm
        · rw [h]; exact (oI _ List.mem_cons_self).symm
        · rw [h]; exact (oD _ List.mem_cons_self).symm
        · exact oW p h
    have offC : ∀ p ∈ (I, o) :: (D, listOf (List.toArray ys) nD) :: (W ++ (V ++ Z)), p.1 ≠ C := by
      intro p hp
      simp only [List.mem_cons] at hp
      rcases hp with h | h | h
      · rw [h]; exact Nat.ne_of_lt (Nat.lt_trans hID hDC)
      · rw [h]; exact Nat.ne_of_lt hDC
      · exact oC' p (List.mem_cons_of_mem _ h)
    refine tgt d hdm _ _ (W ++ (V ++ U)) k' m C oC m₂ v _ S2 offC hC (fun p hp => List.mem_cons_of_mem _ (List.mem_cons_of_mem _ (hUZ p hp))) (hdv.mono fun p hp => List.mem_append_right _ hp) fun h3 tk3 oC3 m3 S3 hC3 _ hB3 => ?_
    refine jtests_nil ?_
    rw [if_pos rfl]
    have hZ3 : ∀ p ∈ (C, oC3) :: R, p ∈ (C, oC3) :: ((I, o) :: (D, listOf (List.toArray ys) nD) :: (W ++ (V ++ Z))) := fun p hp => by
      rcases List.mem_cons.mp hp with rfl | hp
      · exact List.mem_cons_self
      · exact List.mem_cons_of_mem _ (List.mem_cons_of_mem _ (List.mem_cons_of_mem _ (List.mem_append_right _ (List.mem_append_right _ (hR p hp)))))
    have hYU : ∀ p ∈ Y, p ∈ W ++ (V ++ U) := fun p hp => List.mem_append_right _ (List.mem_append_right _ (hY p hp))
    have hUC : ∀ p ∈ W ++ (V ++ U), p ∈ (C, oC3) :: ((I, o) :: (D, listOf (List.toArray ys) nD) :: (W ++ (V ++ Z))) := fun p hp => List.mem_cons_of_mem _ (List.mem_cons_of_mem _ (List.mem_cons_of_mem _ (hUZ p hp)))
    refine inner d hdm C oC3 m3 (W ++ (V ++ U)) hYU hC3 hB3 _ _ (W ++ (V ++ U)) k' _ hZ3 (fun _ h => h) hUC S3 (by omega) fun I' cls' keep' X k4 h4 tk4 P'' J' hP'' hkeep' hk4 S4 f4 lI' hI' => ?_
    obtain ⟨⟨t4, n4, N4⟩, o4⟩ := S4.N
    have fX : ∀ p ∈ X ++ (W ++ (V ++ Z)), p.1 ≠ I ∧ p.1 ≠ C ∧ p.1 ≠ D := fun p hp => by
      rcases List.mem_append.mp hp with hx | hx
      · exact ⟨(f4 p hx (I, o) (by simp)).symm, (f4 p hx (C, oC3) (by simp)).symm, (f4 p hx (D, _) (List.mem_cons_of_mem _ (List.mem_cons_of_mem _ List.mem_cons_self))).symm⟩
      · exact ⟨oI p (List.mem_cons_of_mem _ hx), oC' p (List.mem_cons_of_mem _ hx), oD p (List.mem_cons_of_mem _ hx)⟩
    have fXW : Fresh (X ++ W) (V ++ Z) := fW.app fun p hp q hq => f4 p hp q (List.mem_cons_of_mem _ (List.mem_cons_of_mem _ (List.mem_cons_of_mem _ hq)))
    refine ⟨⟨h4, tk4, rfl⟩, I', cls', (es d).length, P'', keep', oC3, m3, nD, ys, (c.hand, listOf #[.ref c.sc, .int k4 t4] n4) :: (X ++ (W ++ (V ++ Z))), fun j ys => InvC c (V ++ Z) k1 fun X2 => (∀ p ∈ X ++ W, p ∈ X2) ∧ DatAll (X2 ++ (V ++ U)) ys (((ds.take i).flatMap fun d => ((es d).filter (T d)).map (g d)) ++ (((es d).take j).filter (T d)).map (g d)),
      fun m₂ => ∀ p ∈ B0 d, ∃ u, m₂ p.1 = some u ∧ DatIn (W ++ (V ++ U)) u p.2, rfl, J', S4.F, ?_, hC3, hB3, ?_, ?_, ?_, ?_, ?_, ?_, ?_⟩
    · refine jsub N4 fun p hp => ?_
      simp only [List.mem_cons, List.mem_append] at hp ⊢
      rcases hp with h | h | h | h | h | h | h | h <;> simp [h]
    · intro p hp
      simp only [List.mem_cons, List.mem_append] at hp
      rcases hp with h | h | h | h | h
      · rw [h]; exact lI' (I, o) (by simp)
      · rw [h]; exact lI' (C, oC3) (by simp)
      · rw [h]; exact lI' (D, listOf (List.toArray ys) nD) (by simp)
      · rw [h]; exact hI'
      · refine lI' p ?_
        simp only [List.mem_cons, List.mem_append]
        rcases h with h | h | h | h <;> simp [h]
    · intro p hp
      rcases List.mem_cons.mp hp with rfl | hp
      · exact ⟨oI (c.hand, listOf #[.ref c.sc, .int k' t] n) List.mem_cons_self, oC' (c.hand, listOf #[.ref c.sc, .int k' t] n) List.mem_cons_self, oD (c.hand, listOf #[.ref c.sc, .int k' t] n) List.mem_cons_self⟩
      · exact fX p hp
    · rintro j ys nx ⟨X2, k', t, n, rfl, _, _, _, _, hsub, _⟩ p hp
      refine List.mem_cons_of_mem _ ?_
      have := hkeep' p hp
      simp only [List.mem_append] at this ⊢
      rcases this with h | h | h | h
      · exact .inl (hsub p (by simp [h]))
      · exact .inl (hsub p (by simp [h]))
      · exact .inr (.inl h)
      · exact .inr (.inr (hU p h))
    · refine ⟨X ++ W, k4, t4, n4, by simp, S4.k0, by omega, fXW, fun p hp => o4 p ?_, fun _ h => h, ?_⟩
      · simp only [List.mem_append, List.mem_cons] at hp ⊢
        rcases hp with (h | h) | h | h <;> simp [h]
      · simp only [List.take_zero, List.filter_nil, List.map_nil, List.append_nil]
        exact hd.mono fun p hp => by rw [List.append_assoc]; exact List.mem_append_right _ hp
    · rintro j ys nx ⟨X2, k', t, n, rfl, _, _, _, _, _, hd⟩
      rw [hd.length, List.length_append]
      refine Nat.le_trans (Nat.add_le_add_left (filt_le j) _) ?_
      rw [← List.length_append, ← flat_take (F := fun d => ((es d).filter (T d)).map (g d)) hdi]
      exact Nat.le_trans (flat_le _) hl
    · rintro j v ys nx h5 tk5 o' oC5 m5 nD5 hj hv5 ⟨X2, k5, t5, n5, rfl, hk50, hk5, fX2, oX2, hsub, hd5⟩ ho' hC5 hM5 F5 N5 oI5 oI6 oC6 oD6 hII hCI hDI
      obtain ⟨e, hei, hev⟩ := hP'' j v hj hv5
      have hem : e ∈ es d := List.mem_of_getElem? hei
      have hXU : ∀ p ∈ X ++ (W ++ (V ++ U)), p ∈ X2 ++ (V ++ U) := fun p hp => by
        simp only [List.mem_append] at hp ⊢
        rcases hp with h | h | h
        · exact .inl (hsub p (by simp [h]))
        · exact .inl (hsub p (by simp [h]))
        · exact .inr h
      have hXZ : ∀ p ∈ X2 ++ (V ++ U), p ∈ X2 ++ (V ++ Z) := fun p hp => (List.mem_append.mp hp).elim (List.mem_append_left _) fun h => List.mem_append_right _ (hUV p h)
      have S5 : St c m ((C, oC5) :: ((I', o') :: (I, o) :: (D, listOf (List.toArray ys) nD5) :: (X2 ++ (V ++ Z)))) k5 { s with heap := h5, toks := tk5 } := by
        refine ⟨F5, ⟨⟨t5, n5, jsub N5 fun p hp => ?_⟩, fun p hp => ?_⟩, hk50⟩
        · simp only [List.mem_cons] at hp ⊢
          rcases hp with h | h | h | h | h | h <;> simp [h]
        · simp only [List.mem_cons] at hp
          rcases hp with h | h | h | h | h
          · rw [h]; exact (oC6 _ List.mem_cons_self).symm
          · rw [h]; exact (oI5 _ List.mem_cons_self).symm
          · rw [h]; exact (oI6 _ List.mem_cons_self).symm
          · rw [h]; exact (oD6 _ List.mem_cons_self).symm
          · exact oX2 p h
      have offC5 : ∀ p ∈ (I', o') :: (I, o) :: (D, listOf (List.toArray ys) nD5) :: (X2 ++ (V ++ Z)), p.1 ≠ C := by
        intro p hp
        simp only [List.mem_cons] at hp
        rcases hp with h | h | h | h
        · rw [h]; exact Nat.ne_of_gt hCI
        · rw [h]; exact Nat.ne_of_lt (Nat.lt_trans hID hDC)
        · rw [h]; exact Nat.ne_of_lt hDC
        · exact oC6 p (List.mem_cons_of_mem _ h)
      refine tgt1 d hdm e hem _ _ (X2 ++ (V ++ U)) k5 m C oC5 m5 v _ S5 offC5 hC5 (fun p hp => List.mem_cons_of_mem _ (List.mem_cons_of_mem _ (List.mem_cons_of_mem _ (hXZ p hp)))) (hev.mono hXU) fun h6 tk6 oC7 m7 S6 hC7 hk7 hB7 => ?_
      have hM7 : ∀ p ∈ B0 d, ∃ u, m7 p.1 = some u ∧ DatIn (W ++ (V ++ U)) u p.2 := fun p hp => by rw [hk7 _ (hdis d e p hp)]; exact hM5 p hp
      have hM7' : ∀ p ∈ B0 d, ∃ u, m7 p.1 = some u ∧ DatIn (X2 ++ (V ++ U)) u p.2 := fun p hp => (hM7 p hp).imp fun u ⟨a, b⟩ => ⟨a, b.mono fun q hq => hXU q (List.mem_append_right _ hq)⟩
      have hZ6 : ∀ p ∈ (C, oC7) :: R, p ∈ (C, oC7) :: ((I', o') :: (I, o) :: (D, listOf (List.toArray ys) nD5) :: (X2 ++ (V ++ Z))) := fun p hp => by
        rcases List.mem_cons.mp hp with rfl | hp
        · exact List.mem_cons_self
        · exact List.mem_cons_of_mem _ (List.mem_cons_of_mem _ (List.mem_cons_of_mem _ (List.mem_cons_of_mem _ (List.mem_append_right _ (List.mem_append_right _ (hR p hp))))))
      have hY6 : ∀ p ∈ Y, p ∈ X2 ++ (V ++ U) := fun p hp => List.mem_append_right _ (List.mem_append_right _ (hY p hp))
      have hU6 : ∀ p ∈ X2 ++ (V ++ U), p ∈ (C, oC7) :: ((I', o') :: (I, o) :: (D, listOf (List.toArray ys) nD5) :: (X2 ++ (V ++ Z))) := fun p hp => List.mem_cons_of_mem _ (List.mem_cons_of_mem _ (List.mem_cons_of_mem _ (List.mem_cons_of_mem _ (hXZ p hp))))
      have fin : ∀ (X3 : Led) (k8 : Int) (h8 : Heap) (tk8 : Nat) (ys' : List Value), k8 ≤ k5 → St c m (X3 ++ ((C, oC7) :: ((I', o') :: (I, o) :: (D, listOf (List.toArray ys) nD5) :: (X2 ++ (V ++ Z))))) k8 { s with heap := h8, toks := tk8 } → Fresh X3 ((C, oC7) :: ((I', o') :: (I, o) :: (D, listOf (List.toArray ys) nD5) :: (X2 ++ (V ++ Z)))) →
          DatAll (X3 ++ (X2 ++ (V ++ U))) ys' (((ds.take i).flatMap fun d => ((es d).filter (T d)).map (g d)) ++ (((es d).take (j + 1)).filter (T d)).map (g d)) →
          JE2 c.h₀ c.L m (fun m₂ => ∀ p ∈ B0 d, ∃ u, m₂ p.1 = some u ∧ DatIn (W ++ (V ++ U)) u p.2) I' o' I o C D (listOf (List.toArray ys) nD5) (InvC c (V ++ Z) k1 fun X2 => (∀ p ∈ X ++ W, p ∈ X2) ∧ DatAll (X2 ++ (V ++ U)) ys' (((ds.take i).flatMap fun d => ((es d).filter (T d)).map (g d)) ++ (((es d).take (j + 1)).filter (T d)).map (g d))) { s with heap := h5, toks := tk5 } { s with heap := h8, toks := tk8 } := by
        intro X3 k8 h8 tk8 ys' hk8 S8 f8 hd8
        obtain ⟨⟨t8, n8, N8⟩, o8⟩ := S8.N
        refine JE2.intro ((c.hand, listOf #[.ref c.sc, .int k8 t8] n8) :: ((X3 ++ X2) ++ (V ++ Z))) S8.F N8 ?_ hC7 hM7 ?_ ⟨X3 ++ X2, k8, t8, n8, rfl, S8.k0, by omega, ?_, ?_, fun p hp => List.mem_append_right _ (hsub p hp), by rw [List.append_assoc]; exact hd8⟩
        · intro p hp
          simp only [List.mem_cons, List.mem_append] at hp ⊢
          rcases hp with h | h | h | h | h | (h | h) | h | h <;> simp [h]
        · intro p hp
          rcases List.mem_cons.mp hp with rfl | hp
          · exact ⟨oI5 (c.hand, listOf #[.ref c.sc, .int k5 t5] n5) List.mem_cons_self, oI6 (c.hand, listOf #[.ref c.sc, .int k5 t5] n5) List.mem_cons_self, oC6 (c.hand, listOf #[.ref c.sc, .int k5 t5] n5) List.mem_cons_self, oD6 (c.hand, listOf #[.ref c.sc, .int k5 t5] n5) List.mem_cons_self⟩
          · rw [List.append_assoc] at hp
            rcases List.mem_append.mp hp with hx | hx
            · exact ⟨(f8 p hx (I', o') (by simp)).symm, (f8 p hx (I, o) (by simp)).symm, (f8 p hx (C, oC7) (by simp)).symm, (f8 p hx (D, listOf (List.toArray ys) nD5) (by simp)).symm⟩
            · exact ⟨oI5 p (List.mem_cons_of_mem _ hx), oI6 p (List.mem_cons_of_mem _ hx), oC6 p (List.mem_cons_of_mem _ hx), oD6 p (List.mem_cons_of_mem _ hx)⟩
        · exact fX2.app fun p hp q hq => f8 p hp q (List.mem_cons_of_mem _ (List.mem_cons_of_mem _ (List.mem_cons_of_mem _ (List.mem_cons_of_mem _ hq))))
        · intro p hp
          rw [List.append_assoc] at hp
          exact o8 p ((List.mem_append.mp hp).elim (List.mem_append_left _) fun h => List.mem_append_right _ (List.mem_cons_of_mem _ (List.mem_cons_of_mem _ (List.mem_cons_of_mem _ (List.mem_cons_of_mem _ h)))))
      refine test d hdm e hem C oC7 m7 (X2 ++ (V ++ U)) hY6 hC7 hM7' hB7 _ _ (X2 ++ (V ++ U)) k5 _ hZ6 (fun _ h => h) hU6 S6 (by omega) fun ok X3 k8 h8 tk8 hk8 S8 f8 hT => ?_
      subst hT
      cases hT : T d e with
      | false =>
        simp only [Bool.false_eq_true, if_false]
        refine fin X3 k8 h8 tk8 ys (by omega) S8 f8 ?_
        rw [filt_step hei, hT]
        simp only [Bool.false_eq_true, if_false, List.append_nil]
        exact hd5.mono fun p hp => List.mem_append_right _ hp
      | true =>
        simp only [if_true]
        refine elem d hdm e hem hT C oC7 m7 (X3 ++ (X2 ++ (V ++ U))) (fun p hp => List.mem_append_right _ (hY6 p hp)) hC7 (fun p hp => (hM7' p hp).imp fun u ⟨a, b⟩ => ⟨a, b.mono fun p hp => List.mem_append_right _ hp⟩) (fun p hp => (hB7 p hp).imp fun u ⟨a, b⟩ => ⟨a, b.mono fun p hp => List.mem_append_right _ hp⟩) _ _ (X3 ++ (X2 ++ (V ++ U))) k8 _ (fun p hp => List.mem_append_right _ (hZ6 p hp)) (fun _ h => h)
          (fun p hp => (List.mem_append.mp hp).elim (List.mem_append_left _) fun h => List.mem_append_right _ (hU6 p h)) S8 (by omega) fun y X4 k9 h9 tk9 hk9 S9 f9 hy => ?_
        refine fin (X4 ++ X3) k9 h9 tk9 (ys ++ [y]) (by omega) (by rw [List.append_assoc]; exact S9) (f8.app f9) ?_
        rw [filt_step hei, hT, if_pos rfl]
        have q := (hd5.mono fun p hp => List.mem_append_right _ (List.mem_append_right _ hp)).append (DatAll.one hy)
        simpa only [List.append_assoc] using q
    · rintro ys nx ⟨X2, k', t, n, rfl, hk0, hk', fX2, oX2, _, hd⟩
      rw [List.take_length] at hd
      refine ⟨X2, k', t, n, rfl, hk0, hk', fX2, oX2, ?_⟩
      rw [flat_take hdi]
      exact hd
  · rintro D ys nx h tk nD ⟨W, k', t, n, rfl, hk0, hk', fW, oW, hd⟩ F' N' oD lD
    rw [List.take_length] at hd
    have lDl : ∀ p ∈ W ++ (V ++ Z), p.1 ≠ D := fun p hp => oD p (List.mem_cons_of_mem _ hp)
    refine ret (.ref D) ((D, listOf (List.toArray ys) nD) :: (W ++ V)) k' h tk (by omega) ⟨F', ⟨⟨t, n, jsub N' fun p hp => ?_⟩, fun p hp => ?_⟩, hk0⟩ ?_ (DatIn.list List.mem_cons_self (hd.mono fun p hp => ?_))
    · simp only [List.cons_append, List.append_assoc, List.mem_cons] at hp ⊢
      rcases hp with h | h | h <;> simp [h]
    · simp only [List.cons_append, List.append_assoc, List.mem_cons] at hp
      rcases hp with h | h
      · rw [h]; exact (oD _ List.mem_cons_self).symm
      · exact oW p h
    · intro p hp q hq
      rcases List.mem_cons.mp hp with rfl | hp
      · exact lDl q (List.mem_append_right _ (List.mem_append_right _ hq))
      · exact (f1.app fW) p hp q hq
    · rw [List.cons_append, List.append_assoc]
      exact List.mem_cons_of_mem _ hp
end

end
section
section
variable {c : Cx} {R Y : Led} {m : Str → Option Value} {env : Env} {mean : ExcName → Option Value} {mg mb : Str → Option Value}
/-- an object with a written attribute -/
inductive HasAttr (C : Addr) (name : Str) (PP : Led → Value → Prop) (Y : Led) (v : Value) : Prop
  | mk (x dx es n u)
    (x0 : v = .ref x)
    (x1 : (x, instObj C dx) ∈ Y)
    (x2 : (dx, dictOf es n) ∈ Y)
    (x3 : getL name es = some (some u))
    (x4 : handedIn u = true)
    (x5 : PP Y u) : HasAttr C name PP Y v
theorem ev_attr {e : Expr} {name : Str} {pos : Pos} {b : Nat} {C : Addr} {PP : Led → Value → Prop} {at_ : Option Value} (G : Tops c mean mg mb) (h : Ev c R Y m b (eval e env) (HasAttr C name PP))
    (k1 : plainGet (KK c.w.params) C name = true) (k2 : hasDictIn (KK c.w.params) C = true) (k3 : findIn (KK c.w.params) (.ref C) name = some at_) (k4 : noGet (KK c.w.params) at_ = true)
    (he : eval (.Attribute e name pos) env = (do
      let o ← eval e env
      standAt pos.atName
      let r ← holding [o] (getAttr o name true)
      letTemporaryGo e o r
      pure r)) : Ev c R Y m b (eval (.Attribute e name pos) env) PP := by
  intro s Z U k Q hR hY hU S hk ret
  refine Attribute_any_ ?_ he
  refine h s Z U k _ hR hY hU S hk fun v V k' h' tk' hk' S' f' p' => ?_
  obtain ⟨x, dx, es, n, u, rfl, h1, h2, h3, h4, h5⟩ := p'
  have up : ∀ p ∈ V ++ U, p ∈ V ++ Z := fun p hp => (List.mem_append.mp hp).elim (List.mem_append_left _) fun h => List.mem_append_right _ (hU p h)
  exact get_own S'.F G.X (InstAt.of_news S'.news (up _ h1) (up _ h2)) k1 k2 k3 k4 h3 h4 (ret u V k' h' _ hk' S'.toks f' h5)
theorem res_version {Y : Led} {v : Value} {prs : List (Str × List Int)} (h : ResAt Y v prs) : HasAttr 66 (Str.ofString "version") (IsD (.int 0)) Y v := by
  obtain ⟨x, dx, h1, h2, h3, t1, t2, t3, tv, ap, tu, n, rfl, a, b, d⟩ := h
  exact ⟨x, dx, _, n, .int 0 tv, rfl, a, b, by kernel_rfl, by rfl, .int _ _⟩
theorem res_data {Y : Led} {v : Value} {prs : List (Str × List Int)} (h : ResAt Y v prs) : HasAttr 66 (Str.ofString "user_data") (IsD (.bytes #[])) Y v := by
  obtain ⟨x, dx, h1, h2, h3, t1, t2, t3, tv, ap, tu, n, rfl, a, b, d⟩ := h
  exact ⟨x, dx, _, n, .bytes #[] tu, rfl, a, b, by kernel_rfl, by rfl, .bytes _ _⟩
theorem res_parts {Y : Led} {v : Value} {prs : List (Str × List Int)} (h : ResAt Y v prs) : HasAttr 66 (Str.ofString "assigned_partitions") (IsD (.list (prs.map dPair))) Y v := by
  obtain ⟨x, dx, h1, h2, h3, t1, t2, t3, tv, ap, tu, n, rfl, a, b, d⟩ := h
  exact ⟨x, dx, _, n, .ref ap, rfl, a, b, by kernel_rfl, by rfl, d⟩
theorem mem_topics {Y : Led} {v : Value} {mm : Mem} (h : MemAt Y v mm) : HasAttr 87 (Str.ofString "metadata") (HasAttr 40 (Str.ofString "topics") (IsD (.list (mm.topics.map Dat.str)))) Y v := by
  obtain ⟨x, dx, sub, ds, tl, h1, h2, h3, t1, t2, t3, tn, to, n, g1, g2, g3, g4, g5, s1, s2, s3, s4, s5, v1, v3, v4, v5, k, rfl, e1, e2, e3, e4, e5⟩ := h
  exact ⟨x, dx, _, n, .ref sub, rfl, e1, e2, by kernel_rfl, by rfl, sub, ds, _, k, .ref tl, rfl, e3, e4, by kernel_rfl, by rfl, e5⟩
theorem Ev.use {α : Type} {t : Sem α} {b : Nat} {P : Led → α → Prop} {s : Shared} {Z U : Led} {k : Int} {Q : α → Shared → Prop} (h : Ev c R Y m b t P) (hR : ∀ p ∈ R, p ∈ Z) (hY : ∀ p ∈ Y, p ∈ U) (hU : ∀ p ∈ U, p ∈ Z) (S : St c m Z k s) (hk : k + b ≤ 890)
    (ret : ∀ v V k' h' tk', k' ≤ k + b → St c m (V ++ Z) k' { s with heap := h', toks := tk' } → Fresh V Z → P (V ++ U) v → Q v { s with heap := h', toks := tk' }) : wpAny (model PRG c.w) c.A t Q (fun _ _ => False) s := h s Z U k Q hR hY hU S hk ret
abbrev IsRes (prs : List (Str × List Int)) : Led → Value → Prop := fun Y v => ResAt Y v prs
theorem monoRes (prs : List (Str × List Int)) : Mono (IsRes prs) := fun _ _ _ h x => x.mono h
def pEs : Dat → List Dat
  | .tuple [_, .list es] => es
  | _ => []
def pG : Dat → Dat → Dat
  | .tuple [t, _], e => .tuple [t, e]
  | _, _ => .none
def pB (a b : Str) : Dat → List (Str × Dat)
  | .tuple [x, y] => [(a, x), (b, y)]
  | _ => []
theorem pB_names {a b n : Str} (ha : a ≠ n) (hb : b ≠ n) (d : Dat) : ∀ p ∈ pB a b d, p.1 ≠ n := by
  intro p hp
  unfold pB at hp
  split at hp
  · rcases List.mem_cons.mp hp with rfl | hp
    · exact ha
    · rw [List.mem_singleton.mp hp]; exact hb
  · exact absurd hp List.not_mem_nil
theorem flatP_eq (prs : List (Str × List Int)) : (flatP prs).map dTK = (prs.map dPair).flatMap fun d => ((pEs d).filter fun _ => true).map (pG d) := by
  unfold flatP
  induction prs with
  | nil => rfl
  | cons p r ih =>
    rw [List.flatMap_cons, List.map_append, ih, List.map_cons, List.flatMap_cons]
    congr 1
    simp [pEs, pG, dTK, dPair, List.filter_eq_self.mpr]
end
set_option maxRecDepth 100000 in
set_option maxHeartbeats 8000000 in
theorem ec_parts {c : Cx} {R Y : Led} {m : Str → Option Value} {mean : ExcName → Option Value} {mg mb : Str → Option Value} {v : Value} {prs : List (Str × List Int)} (D : Deep c mean mg mb) (hfl : (flatP prs).length ≤ 1000) (hv : ResAt Y v prs) :
    Ev c R Y m 0 (call (.ref 63) [v]) (IsD (.list ((flatP prs).map dTK))) := by
  intro s Z U k Q hR hY hU S hk ret
  obtain ⟨dp, un, gd, cn, cs, a, ccd, cl, outer, A₀, base, eA, B, hkk, hd, hu⟩ := D.deep
  obtain ⟨w, A, h₀, L, hand, sc⟩ := c
  obtain ⟨X, T⟩ := D.toTops
  dsimp only at eA B X T S ret ⊢
  subst eA
  obtain ⟨hd0, hh, N⟩ := S.hd
  obtain ⟨F, N0, k0⟩ := S
  dsimp only at F N
  revert X
  show (KK w.params).In h₀ → wpAny (model PySem.Challenge.rw_je0013_01.row.prog w) _ _ _ _ _
  k_fill; intro X
  refine wpAny_call ?_
  k_dflt ktr_enter
  rename_i g1 L1 h1 FG F1 N1 B1 X1 T1
  refine wpAny_noRaise ?_
  refine wpAny_execs_cons (wpAny_Return_some ?_)
  have hfl2 : ((flatP prs).map dTK).length ≤ 1000 := by rw [List.length_map]; exact hfl
  rw [flatP_eq] at ret hfl2
  refine Ev.use (c := ⟨w, _, g1, L1, hand, sc⟩) (R := []) (Y := Y) (Z := Z) (U := U) (k := k) (b := 0) (P := IsD (.list ((prs.map dPair).flatMap fun d => ((pEs d).filter fun _ => true).map (pG d)))) ?ev (fun p hp => absurd hp List.not_mem_nil) hY hU ⟨F1, ⟨by obtain ⟨t, n, rfl⟩ := hh; exact ⟨t, n, N1⟩, N0.2⟩, k0⟩ hk fun v V k' h' tk' hk' S' f' p' => ?fin
  case ev =>
    refine ev_comp2 (B0 := pB (Str.ofString "topic") (Str.ofString "partitions")) (B1 := fun e => [(Str.ofString "partition", e)]) (b0 := 0)
      (es := pEs) (T := fun _ _ => true) (g := pG) (ds := prs.map dPair) (closureFor_none (by decide)) (by decide) rfl (by decide) (fun _ => rfl) (fun _ _ => rfl) ?_ ?_ ?_ ?_ ?_ ?_ ?_ ?_
    · refine ei_list rfl (ev_attr (C := 66) (at_ := none) ⟨X1, T1⟩ (ev_name (rd_local (x := Str.ofString "self") (cl := []) rfl rfl (by decide) rfl) ?_ (res_parts hv)) (by kernel_rfl) (by kernel_rfl) (by kernel_rfl) (by kernel_rfl) rfl)
      rintro Y Y' v hs ⟨x, dx, es, n, u, h0, h1, h2, h3, h4, h5⟩
      exact ⟨x, dx, es, n, u, h0, hs _ h1, hs _ h2, h3, h4, h5.mono hs⟩
    · exact hfl2
    · intro d hd'
      obtain ⟨p, hp, rfl⟩ := List.mem_map.mp hd'
      exact tgt_pair rfl rfl (fun _ => rfl) (fun _ => rfl) (by decide) fun _ => rfl
    · exact fun d hd' e he => tgt_name rfl fun _ => rfl
    · intro d e p hp
      rw [List.map_cons, List.map_nil, List.mem_singleton]
      exact pB_names (n := Str.ofString "partition") (by decide) (by decide) d p hp
    · intro d hd' C oC m₂ Y' hs hC hB
      obtain ⟨p, hp, rfl⟩ := List.mem_map.mp hd'
      obtain ⟨u, hu1, hu2⟩ := hB (Str.ofString "partitions", .list (p.2.map Dat.int)) (List.mem_cons_of_mem _ List.mem_cons_self)
      exact ei_list rfl (ev_nameD (rd_own rfl rfl (by decide) List.mem_cons_self hC hu1) hu2)
    · exact fun d hd' e he C oC m₂ Y' hs hC hB hB1 => ev_tests0
    · intro d hd' e he _ C oC m₂ Y' hs hC hB hB1
      obtain ⟨p, hp, rfl⟩ := List.mem_map.mp hd'
      obtain ⟨u, hu1, hu2⟩ := hB (Str.ofString "topic", .str p.1) List.mem_cons_self
      obtain ⟨u', hu1', hu2'⟩ := hB1 _ List.mem_cons_self
      exact ev_tuple2 (b1 := 0) (b2 := 0) (ev_nameD (rd_own rfl rfl (by decide) List.mem_cons_self hC hu1) hu2) (ev_nameD (rd_own rfl rfl (by decide) List.mem_cons_self hC hu1') hu2') rfl rfl
  case fin =>
    obtain ⟨⟨t', n', N'⟩, o'⟩ := S'.N
    refine ⟨L1, _, _, S'.F, N', fun F2 N2 => ?_⟩
    exact ret v V k' h' tk' hk' ⟨F2, ⟨⟨t', n', N2⟩, o'⟩, S'.k0⟩ f' p'

end
section
section
variable {c : Cx} {R Y : Led} {m : Str → Option Value} {env : Env}
theorem valueAt_snoc {kvs : List (Str × Value)} {k x : Str} {v : Value} (h : k ∉ kvs.map (·.1)) : valueAt (kvs ++ [(k, v)]) x = if x = k then some v else valueAt kvs x := by
  unfold valueAt
  rw [List.find?_append]
  by_cases e : x = k
  · subst e
    rw [if_pos rfl]
    have : kvs.find? (fun p => decide (p.1 = x)) = none := List.find?_eq_none.mpr fun p hp => by
      simp only [decide_eq_true_eq]
      exact fun e => h (e ▸ List.mem_map.mpr ⟨p, hp, rfl⟩)
    simp [this]
  · rw [if_neg e]
    have : [(k, v)].find? (fun p => decide (p.1 = x)) = none := by simp [Ne.symm e]
    rw [this, Option.or_none]
theorem stored_new {kvs : List (Str × Value)} {k : Str} {v : Value} (h : k ∉ kvs.map (·.1)) : stored kvs k v = kvs ++ [(k, v)] := stored_none (valueAt_none h)
theorem ev_compD {ke ve t0 i0 : Expr} {scope : Scope} {cl : List (Str × Addr)} {pos : Pos} {b0 : Nat} {ks : List Str} {B : Str → List (Str × Dat)} {CC : Str → Led → Value → Prop}
    (hclos : closureFor scope env = pure cl) (hcell : ∀ y ∈ scope.names, y.2 ≠ .cell) (hkind : scope.kind = .function) (hnames : ∀ y ∈ scope.names, y.2 = .local → scope.names.lookup y.1 = some .local) (hs : ∀ x, foldedSetIterable i0 env x = pure x)
    (hi : EvI c R Y m b0 env i0 ks.length (ItemsD (ks.map Dat.str))) (hl : ks.length ≤ 1000) (nd : ks.Nodup) (hbig : sysModules < c.h₀.objs.size) (mono : ∀ x, Mono (CC x)) (tgt : ∀ x ∈ ks, Tgt c scope cl env t0 (.str x) (B x))
    (key : ∀ x ∈ ks, ∀ C oC m₂ Y', (∀ p ∈ Y, p ∈ Y') → LCg.NsObj oC m₂ → (∀ p ∈ B x, ∃ u, m₂ p.1 = some u ∧ DatIn Y' u p.2) → Ev c ((C, oC) :: R) Y' m 0 (eval ke (compEnvC scope cl C env)) (IsD (.str x)))
    (val : ∀ x ∈ ks, ∀ C oC m₂ Y', (∀ p ∈ Y, p ∈ Y') → LCg.NsObj oC m₂ → (∀ p ∈ B x, ∃ u, m₂ p.1 = some u ∧ DatIn Y' u p.2) → Ev c ((C, oC) :: R) Y' m 0 (eval ve (compEnvC scope cl C env)) (CC x)) :
    Ev c R Y m b0 (eval (.DictComp ke ve [⟨t0, i0, [], 0⟩] scope pos) env) (IsDict c ks CC) := by
  intro s Z U k Q hR hY hU St0 hk ret
  refine jcompD St0.F hclos hcell hkind hnames ?_ hs
  refine hi s Z U k _ hR hY hU St0 (by omega) fun I cls keep V k1 h1 tk1 P' J hP' hkeep hk1 S1 f1 lI hI => ?_
  obtain ⟨⟨t1, n1, N1⟩, o1⟩ := S1.N
  have hUV : ∀ p ∈ V ++ U, p ∈ V ++ Z := fun p hp => (List.mem_append.mp hp).elim (List.mem_append_left _) fun h => List.mem_append_right _ (hU p h)
  refine ⟨I, cls, ks.length, P', keep, m, _, fun i ys => InvC c (V ++ Z) k1 fun W => ys.map (·.1) = ks.take i ∧ ∀ x u, valueAt ys x = some u → CC x (W ++ (V ++ U)) u, rfl, J, S1.F, N1, hbig, ?_, ?_, ?_, ?_, ?_, ?_⟩
  · intro p hp
    rcases List.mem_cons.mp hp with rfl | hp
    · exact hI
    · exact lI p hp
  · rintro i ys nx ⟨W, k', t, n, rfl, _⟩ p hp
    exact List.mem_cons_of_mem _ (List.mem_append_right _ (hUV p (hkeep p hp)))
  · exact ⟨[], k1, t1, n1, rfl, S1.k0, by omega, Fresh.nil, o1, rfl, fun x u h => by cases h⟩
  · rintro i ys nx ⟨W, k', t, n, rfl, _, _, _, _, he, _⟩
    have := congrArg List.length he
    rw [List.length_map, List.length_take] at this
    omega
  · rintro i v ys nx h tk o D C oC m₂ oD hi' hv ⟨W, k', t, n, rfl, hk0, hk', fW, oW, he, hd⟩ ho hC hdD F' N' oI oC' oD' hID hDC
    obtain ⟨d, hdi, hdv⟩ := hP' i v hi' hv
    rw [List.getElem?_map] at hdi
    obtain ⟨x, hx, rfl⟩ := Option.map_eq_some_iff.mp hdi
    have hxm : x ∈ ks := List.mem_of_getElem? hx
    have hUZ : ∀ p ∈ W ++ (V ++ U), p ∈ W ++ (V ++ Z) := fun p hp => (List.mem_append.mp hp).elim (List.mem_append_left _) fun h => List.mem_append_right _ (hUV p h)
    have S2 : St c m ((C, oC) :: ((I, o) :: (D, oD) :: (W ++ (V ++ Z)))) k' { s with heap := h, toks := tk } := by
      refine ⟨F', ⟨⟨t, n, jsub N' fun p hp => ?_⟩, fun p hp => ?_⟩, hk0⟩
      · simp only [List.mem_cons] at hp ⊢
        rcases hp with h | h | h | h | h <;> simp [h]
      · simp only [List.mem_cons] at hp
        rcases hp with h | h | h | h
        · rw [h]; exact (oC' _ List.mem_cons_self).symm
        · rw [h]; exact (oI _ List.mem_cons_self).symm
        · rw [h]; exact (oD' _ List.mem_cons_self).symm
        · exact oW p h
    have offC : ∀ p ∈ (I, o) :: (D, oD) :: (W ++ (V ++ Z)), p.1 ≠ C := by
      intro p hp
      simp only [List.mem_cons] at hp
      rcases hp with h | h | h
      · rw [h]; exact Nat.ne_of_lt (Nat.lt_trans hID hDC)
      · rw [h]; exact Nat.ne_of_lt hDC
      · exact oC' p (List.mem_cons_of_mem _ h)
    refine tgt x hxm _ _ (W ++ (V ++ U)) k' m C oC m₂ v _ S2 offC hC (fun p hp => List.mem_cons_of_mem _ (List.mem_cons_of_mem _ (hUZ p hp))) (hdv.mono fun p hp => List.mem_append_right _ hp) fun h3 tk3 oC3 m3 S3 hC3 _ hB3 => ?_
    refine jtests_nil ?_
    rw [if_pos rfl]
    have hZ3 : ∀ p ∈ (C, oC3) :: R, p ∈ (C, oC3) :: ((I, o) :: (D, oD) :: (W ++ (V ++ Z))) := fun p hp => by
      rcases List.mem_cons.mp hp with rfl | hp
      · exact List.mem_cons_self
      · exact List.mem_cons_of_mem _ (List.mem_cons_of_mem _ (List.mem_cons_of_mem _ (List.mem_append_right _ (List.mem_append_right _ (hR p hp)))))
    have hYU : ∀ p ∈ Y, p ∈ W ++ (V ++ U) := fun p hp => List.mem_append_right _ (List.mem_append_right _ (hY p hp))
    have hUC : ∀ p ∈ W ++ (V ++ U), p ∈ (C, oC3) :: ((I, o) :: (D, oD) :: (W ++ (V ++ Z))) := fun p hp => List.mem_cons_of_mem _ (List.mem_cons_of_mem _ (List.mem_cons_of_mem _ (hUZ p hp)))
    refine key x hxm C oC3 m3 (W ++ (V ++ U)) hYU hC3 hB3 _ _ (W ++ (V ++ U)) k' _ hZ3 (fun _ h => h) hUC S3 (by omega) fun kv X k4 h4 tk4 hk4 S4 f4 p4 => ?_
    refine val x hxm C oC3 m3 (X ++ (W ++ (V ++ U))) (fun p hp => List.mem_append_right _ (hYU p hp)) hC3 (fun p hp => (hB3 p hp).imp fun u ⟨a, b⟩ => ⟨a, b.mono fun p hp => List.mem_append_right _ hp⟩) _ _ (X ++ (W ++ (V ++ U))) k4 _ (fun p hp => List.mem_append_right _ (hZ3 p hp)) (fun _ h => h)
      (fun p hp => (List.mem_append.mp hp).elim (List.mem_append_left _) fun h => List.mem_append_right _ (hUC p h)) S4 (by omega) fun vv X2 k5 h5 tk5 hk5 S5 f5 p5 => ?_
    obtain ⟨tx, rfl⟩ := dstr p4
    refine ⟨x, strKind_is _ _ _ _, ?_⟩
    have hxn : x ∉ ys.map (·.1) := by
      rw [he]
      intro hin
      obtain ⟨j, hj, e⟩ := List.mem_take_iff_getElem.mp hin
      have hil := List.getElem?_eq_some_iff.mp hx
      obtain ⟨hil, ei⟩ := hil
      have := (List.getElem_inj (xs := ks) nd (i := j) (j := i) (h₀ := by omega) (h₁ := hil)).mp (by rw [e, ei])
      omega
    obtain ⟨⟨t5, n5, N5⟩, o5⟩ := S5.N
    have f45 : Fresh (X2 ++ X) ((C, oC3) :: ((I, o) :: (D, oD) :: (W ++ (V ++ Z)))) := f4.app f5
    have mem5 : ∀ p, p ∈ (X2 ++ X) ++ (W ++ (V ++ Z)) → p ∈ X2 ++ (X ++ (C, oC3) :: (I, o) :: (D, oD) :: (W ++ (V ++ Z))) := fun p hp => by
      simp only [List.mem_append, List.mem_cons] at hp ⊢
      rcases hp with (h | h) | h | h | h <;> simp [h]
    refine JE.intro ((c.hand, listOf #[.ref c.sc, .int k5 t5] n5) :: (((X2 ++ X) ++ W) ++ (V ++ Z))) S5.F N5 (fun p hp => ?_) hC3 (fun p hp => ?_) ⟨(X2 ++ X) ++ W, k5, t5, n5, rfl, S5.k0, by omega, ?_, fun p hp => ?_, ?_, fun y u hu => ?_⟩
    · rw [List.append_assoc (X2 ++ X)] at hp
      rcases List.mem_cons.mp hp with rfl | hp
      · exact List.mem_cons_of_mem _ (List.mem_append_right _ (List.mem_append_right _ (List.mem_cons_of_mem _ List.mem_cons_self)))
      · rcases List.mem_cons.mp hp with rfl | hp
        · exact List.mem_cons_of_mem _ (List.mem_append_right _ (List.mem_append_right _ List.mem_cons_self))
        · rcases List.mem_cons.mp hp with rfl | hp
          · exact List.mem_cons_of_mem _ (List.mem_append_right _ (List.mem_append_right _ (List.mem_cons_of_mem _ (List.mem_cons_of_mem _ List.mem_cons_self))))
          · rcases List.mem_cons.mp hp with rfl | hp
            · exact List.mem_cons_self
            · exact List.mem_cons_of_mem _ (mem5 p hp)
    · rcases List.mem_cons.mp hp with rfl | hp
      · exact ⟨oI (c.hand, listOf #[.ref c.sc, .int k' t] n) List.mem_cons_self, oC' (c.hand, listOf #[.ref c.sc, .int k' t] n) List.mem_cons_self, oD' (c.hand, listOf #[.ref c.sc, .int k' t] n) List.mem_cons_self⟩
      · rw [List.append_assoc] at hp
        rcases List.mem_append.mp hp with hx | hx
        · refine ⟨(f45 p hx (I, o) (by simp)).symm, (f45 p hx (C, oC3) (by simp)).symm, (f45 p hx (D, oD) (by simp)).symm⟩
        · exact ⟨oI p (List.mem_cons_of_mem _ hx), oC' p (List.mem_cons_of_mem _ hx), oD' p (List.mem_cons_of_mem _ hx)⟩
    · exact fW.app fun p hp q hq => f45 p hp q (List.mem_cons_of_mem _ (List.mem_cons_of_mem _ (List.mem_cons_of_mem _ hq)))
    · rw [List.append_assoc] at hp
      exact o5 p (mem5 p hp)
    · rw [stored_new hxn, List.map_append, he, List.take_add_one, hx]; rfl
    · rw [stored_new hxn, valueAt_snoc hxn] at hu
      by_cases e : y = x
      · subst e
        rw [if_pos rfl] at hu
        cases hu
        rw [List.append_assoc, List.append_assoc]
        exact p5
      · rw [if_neg e] at hu
        exact mono y _ _ _ (fun p hp => by rw [List.append_assoc]; exact List.mem_append_right _ hp) (hd y u hu)
  · rintro D ys nx h tk oD ⟨W, k', t, n, rfl, hk0, hk', fW, oW, he, hd⟩ hdD hlo F' N' oD' lD
    rw [List.take_length] at he
    have lDl : ∀ p ∈ W ++ (V ++ Z), p.1 ≠ D := fun p hp => oD' p (List.mem_cons_of_mem _ hp)
    refine ret (.ref D) ((D, oD) :: (W ++ V)) k' h tk (by omega) ⟨F', ⟨⟨t, n, jsub N' fun p hp => ?_⟩, fun p hp => ?_⟩, hk0⟩ ?_ ⟨D, oD, ys, rfl, List.mem_cons_self, hlo, hdD, he, fun x u hu => mono x _ _ _ (fun p hp => ?_) (hd x u hu)⟩
    · simp only [List.cons_append, List.append_assoc, List.mem_cons] at hp ⊢
      rcases hp with h | h | h <;> simp [h]
    · simp only [List.cons_append, List.append_assoc, List.mem_cons] at hp
      rcases hp with h | h
      · rw [h]; exact (oD' _ List.mem_cons_self).symm
      · exact oW p h
    · intro p hp q hq
      rcases List.mem_cons.mp hp with rfl | hp
      · exact lDl q (List.mem_append_right _ (List.mem_append_right _ hq))
      · exact (f1.app fW) p hp q hq
    · rw [List.cons_append, List.append_assoc]
      exact List.mem_cons_of_mem _ hp
end

end
section
section
variable {c : Cx} {cn : Str} {sc : Scope} {a : Addr} {ccd : Value} {cl : List (Str × Addr)} {s0 s : Shared} {ρ : Str → Option Value} {Fx M P : Led} {k : Int}
theorem upd_mid {b : Addr} {o : Obj} {post : Led} (hpost : ∀ p ∈ post, p.1 ≠ b) : ∀ {pr : Led}, (∀ p ∈ pr, p.1 ≠ b) → ∃ g, UpdF b o (pr ++ (b, o) :: post) g ∧ ∀ o', g o' = pr ++ (b, o') :: post
  | [], _ => ⟨_, .head hpost, fun _ => rfl⟩
  | p :: pr, h => by
    obtain ⟨g, U, e⟩ := upd_mid hpost (pr := pr) fun q hq => h q (List.mem_cons_of_mem _ hq)
    exact ⟨_, .tail (h p List.mem_cons_self) U, fun o' => by rw [e]; rfl⟩
/-- an owned object may change -/
theorem LS.open {pre post : Led} {b : Addr} {o : Obj} (S : LS c cl s0 ρ Fx (pre ++ (b, o) :: post) P k s) : ∃ m news g, Fr c.h₀ c.L s.heap m ∧ News c.h₀ c.L s.heap news ∧ UpdF b o news g ∧ (∀ p ∈ (pre ++ (b, o) :: post) ++ P, p ∈ news) ∧
    ∀ o' h' tk', Fr c.h₀ c.L h' m → News c.h₀ c.L h' (g o') → LS c cl s0 ρ Fx (pre ++ (b, o') :: post) P k { s with heap := h', toks := tk' } := by
  obtain ⟨m, cs, hp, tk, rfl, St, C, hm, nd, dj⟩ := S
  obtain ⟨⟨t, n, N⟩, oh⟩ := St.N
  have hhb : c.hand ≠ b := fun e => oh (b, o) (by simp) e.symm
  have e0 : cs ++ (Fx ++ (pre ++ (b, o) :: post)) = (cs ++ (Fx ++ pre)) ++ (b, o) :: post := by simp
  have nd1 : ∀ p ∈ (cs ++ (Fx ++ pre)) ++ post, p.1 ≠ b := by
    intro p hp e
    rw [e0, List.map_append, List.map_cons] at nd
    have nd2 := List.perm_middle.nodup_iff.mp nd
    rw [List.nodup_cons, ← List.map_append] at nd2
    exact nd2.1 (e ▸ List.mem_map.mpr ⟨p, hp, rfl⟩)
  obtain ⟨g, U, eg⟩ := upd_mid (o := o) (post := post ++ P) (fun p hp => by
      rcases List.mem_append.mp hp with h | h
      · exact nd1 p (List.mem_append_right _ h)
      · exact (dj p h (b, o) (by simp)).symm) (pr := (c.hand, listOf #[.ref c.sc, .int k t] n) :: (cs ++ (Fx ++ pre))) (fun p hp => by
      rcases List.mem_cons.mp hp with rfl | hp
      · exact hhb
      · exact nd1 p (List.mem_append_left _ hp))
  refine ⟨m, _, g, St.F, jsub N fun p hp => ?_, U, fun p hp => ?_, fun o' h' tk' F' N' => ⟨m, cs, h', tk', rfl, ⟨F', ⟨⟨t, n, ?_⟩, fun p hp => ?_⟩, St.k0⟩, C, hm, ?_, fun p hp q hq => ?_⟩⟩
  · simp only [List.mem_cons, List.mem_append, List.cons_append] at hp ⊢
    rcases hp with h | (h | h | h) | h | h | h <;> simp [h]
  · simp only [List.mem_cons, List.mem_append, List.cons_append] at hp ⊢
    rcases hp with (h | h | h) | h <;> simp [h]
  · rw [eg] at N'
    refine jsub N' fun p hp => ?_
    simp only [List.mem_cons, List.mem_append, List.cons_append] at hp ⊢
    rcases hp with h | (h | h | h | h | h) | h <;> simp [h]
  · simp only [List.mem_cons, List.mem_append] at hp
    rcases hp with (h | h | h | h | h) | h
    · exact oh p (by simp [h])
    · exact oh p (by simp [h])
    · exact oh p (by simp [h])
    · rw [h]; exact oh (b, o) (by simp)
    · exact oh p (by simp [h])
    · exact oh p (by simp [h])
  · have e1 : cs ++ (Fx ++ (pre ++ (b, o') :: post)) = (cs ++ (Fx ++ pre)) ++ (b, o') :: post := by simp
    rw [e1, List.map_append, List.map_cons]
    rwa [e0, List.map_append, List.map_cons] at nd
  · simp only [List.mem_cons, List.mem_append] at hq
    rcases hq with h | h | h | h | h
    · exact dj p hp q (by simp [h])
    · exact dj p hp q (by simp [h])
    · exact dj p hp q (by simp [h])
    · rw [h]; exact dj p hp (b, o) (by simp)
    · exact dj p hp q (by simp [h])
/-- an owned object joins the pool -/
theorem LS.freeze {pre post : Led} {b : Addr} {o : Obj} (S : LS c cl s0 ρ Fx (pre ++ (b, o) :: post) P k s) : LS c cl s0 ρ Fx (pre ++ post) ((b, o) :: P) k s := by
  obtain ⟨m, cs, hp, tk, rfl, St, C, hm, nd, dj⟩ := S
  have e0 : cs ++ (Fx ++ (pre ++ (b, o) :: post)) = (cs ++ (Fx ++ pre)) ++ (b, o) :: post := by simp
  have e1 : cs ++ (Fx ++ (pre ++ post)) = (cs ++ (Fx ++ pre)) ++ post := by simp
  rw [e0, List.map_append, List.map_cons] at nd
  have nd2 := List.perm_middle.nodup_iff.mp nd
  rw [List.nodup_cons, ← List.map_append] at nd2
  refine ⟨m, cs, hp, tk, rfl, St.sub fun p hp => ?_, C, hm, by rw [e1]; exact nd2.2, fun p hp q hq => ?_⟩
  · simp only [List.mem_cons, List.mem_append] at hp ⊢
    rcases hp with (h | h | h | h) | h | h <;> simp [h]
  · rcases List.mem_cons.mp hp with rfl | hp
    · intro e
      rw [e1] at hq
      exact nd2.1 (List.mem_map.mpr ⟨q, hq, e⟩)
    · refine dj p hp q ?_
      simp only [List.mem_append, List.mem_cons] at hq ⊢
      rcases hq with h | h | h | h <;> simp [h]
/-- an append to an owned list -/
theorem ls_append {o e : Expr} {ap cp pos : Pos} {rest : List Stmt} {b1 b2 : Nat} {PP : Led → Value → Prop} {Q : Flow → Shared → Prop} {env : Env} {pre post : Led} {b : Addr} {vs : List Value} {n : Nat} {pl : Sem Bool}
    (S : LS c cl s0 ρ Fx (pre ++ (b, listOf (List.toArray vs) n) :: post) P k s) (ho : EvL c cl ρ Fx (pre ++ (b, listOf (List.toArray vs) n) :: post) P b1 (eval o env) (fun _ v => v = .ref b)) (he : EvL c cl ρ Fx (pre ++ (b, listOf (List.toArray vs) n) :: post) P b2 (eval e env) PP)
    (hk : k + (b1 + b2 : Nat) ≤ 890) (hz : vs.length ≤ 1000)
    (hc : eval (.Call (.Attribute o (Str.ofString "append") ap) [e] [] cp) env = (do
      let ov ← eval o env
      standAt ap.atName
      let (f, first) ← holding [ov] (getMethod ov (Str.ofString "append") pl)
      callWith cp f first (backTo cp (starEach [e] env)) [])) (hs : starEach [e] env = (false, eval e env) :: starEach [] env)
    (hi : interactive env = false) (hsw : swapsWith (.Call (.Attribute o (Str.ofString "append") ap) [e] [] cp) none pos.line env = pure false)
    (next : ∀ v V k' s', k' ≤ k + (b1 + b2 : Nat) → LS c cl s0 ρ Fx (pre ++ (b, listOf (List.toArray (vs ++ [v])) (n + 1)) :: post) (V ++ P) k' s' → PP (V ++ P) v → wpAny (model PRG c.w) c.A (execs rest env) Q (fun _ _ => False) s') :
    wpAny (model PRG c.w) c.A (execs (.Expr (.Call (.Attribute o (Str.ofString "append") ap) [e] [] cp) pos :: rest) env) Q (fun _ _ => False) s := by
  refine wpAny_execs_cons (wpAny_Expr_any (MethodCall_ (S.eval ho (by omega) fun v V k1 s1 hk1 S1 p1 => ?_) hc) hi hsw)
  subst p1
  obtain ⟨m, news, g, F, N, U, sub, back⟩ := S1.open
  refine listMethod_K N (sub (b, listOf (List.toArray vs) n) (by simp)) PySem.F.slot_list_append PySem.F.type_list_append ?_
  refine callWith_method1 (first := [.ref b]) (wpAny_items_cons ?_ hs) hs rfl
  have he2 : EvL c cl ρ Fx (pre ++ (b, listOf (List.toArray vs) n) :: post) (V ++ P) b2 (eval e env) PP := fun m cs C hm => (he m cs C hm).sub (fun p hp => by
    rcases List.mem_append.mp hp with h | h
    · exact List.mem_append_left _ h
    · exact List.mem_append_right _ (List.mem_append_right _ h)) fun p hp => List.mem_append_right _ hp
  refine S1.eval he2 (by omega) fun v V2 k2 s2 hk2 S2 p2 => ?_
  refine wpAny_items_nil ?_
  obtain ⟨m2, news2, g2, F2, N2, U2, sub2, back2⟩ := S2.open
  show wpAny _ _ (call (.builtin "list.append") [.ref b, v]) _ _ _
  refine append_K F2 N2 (updOf U2) (fun h' F' N' => ?_) (by rw [List.size_toArray, sizeLine_eq]; omega)
  rw [List.push_toArray] at N'
  refine next v (V2 ++ V) k2 _ (by omega) ?_ ?_
  · rw [List.append_assoc]; exact back2 _ h' s2.toks F' N'
  · rw [List.append_assoc]; exact p2
/-- a store into an owned dict -/
theorem ls_setitem {d i e : Expr} {tp pos : Pos} {rest : List Stmt} {be : Nat} {PP : Led → Value → Prop} {Q : Flow → Shared → Prop} {env : Env} {pre post : Led} {b : Addr} {od : Obj} {kvs : List (Str × Value)} {x : Str}
    (S : LS c cl s0 ρ Fx (pre ++ (b, od) :: post) P k s) (he : EvL c cl ρ Fx (pre ++ (b, od) :: post) P be (eval e env) PP) (hd : EvL c cl ρ Fx (pre ++ (b, od) :: post) P 0 (eval d env) (fun _ v => v = .ref b)) (hi : EvL c cl ρ Fx (pre ++ (b, od) :: post) P 0 (eval i env) (IsD (.str x)))
    (hk : k + be ≤ 890) (hP : Mono PP) (hod : od.IsDictOf (SK c) kvs) (hz : kvs.length ≤ 1000) (hsw : swapsWith e (some (.Subscript d i tp)) pos.line env = pure false)
    (next : ∀ v V k' o' s', k' ≤ k + be → LS c cl s0 ρ Fx (pre ++ (b, o') :: post) (V ++ P) k' s' → o'.IsDictOf (SK c) (stored kvs x v) → PP (V ++ P) v → wpAny (model PRG c.w) c.A (execs rest env) Q (fun _ _ => False) s') :
    wpAny (model PRG c.w) c.A (execs (.Assign [.Subscript d i tp] e pos :: rest) env) Q (fun _ _ => False) s := by
  refine wpAny_execs_cons (wpAny_Assign_Subscript (S.eval he hk fun v V k1 s1 hk1 S1 p1 => ?_) hsw)
  have up : ∀ {b' : Nat} {t : Sem Value} {P1 : Led → Value → Prop} {V : Led}, EvL c cl ρ Fx (pre ++ (b, od) :: post) P b' t P1 → EvL c cl ρ Fx (pre ++ (b, od) :: post) (V ++ P) b' t P1 := fun h m cs C hm => (h m cs C hm).sub (fun p hp => by
    rcases List.mem_append.mp hp with h | h
    · exact List.mem_append_left _ h
    · exact List.mem_append_right _ (List.mem_append_right _ h)) fun p hp => List.mem_append_right _ hp
  refine S1.eval (up hd) (by omega) fun ov V2 k2 s2 hk2 S2 p2 => ?_
  subst p2
  have S2' : LS c cl s0 ρ Fx (pre ++ (b, od) :: post) ((V2 ++ V) ++ P) k2 s2 := by rw [List.append_assoc]; exact S2
  refine S2'.eval (up hi) (by omega) fun iv V3 k3 s3 hk3 S3 p3 => ?_
  obtain ⟨t, rfl⟩ := dstr p3
  obtain ⟨m2, news2, g2, F2, N2, U2, sub2, back2⟩ := S3.open
  refine kda_set (knd := SK c) F2 N2 U2 hod (strKind_is _ _ _ _) (by rw [sizeLine_eq]; omega) fun h' o' F' N' ho' => ?_
  refine next v (V3 ++ (V2 ++ V)) k3 o' _ (by omega) ?_ ho' (hP _ _ _ (fun p hp => ?_) p1)
  · rw [List.append_assoc]; exact back2 o' h' _ F' N'
  · rw [List.append_assoc, List.append_assoc]; exact List.mem_append_right _ (List.mem_append_right _ hp)
/-- a new owned object -/
theorem ls_own {x : Str} {p pos : Pos} {e : Expr} {rest : List Stmt} {PO : Addr → Obj → Prop} {Q : Flow → Shared → Prop} (S : LS c cl s0 ρ Fx M P k s) (hk : sc.kind = .function) (hcl : (cl.map (·.1)).Nodup) (hx : Held c cn sc a ccd cl x)
    (hsw : swapsWith e (some (.Name x p)) pos.line (envX cn sc c.L a ccd cl) = pure false)
    (he : ∀ (s : Shared) (m : Str → Option Value) (Z : Led) (Q : Value → Shared → Prop), Fr c.h₀ c.L s.heap m → News c.h₀ c.L s.heap Z → (∀ b o h' tk', Fr c.h₀ c.L h' m → News c.h₀ c.L h' ((b, o) :: Z) → (∀ p ∈ Z, p.1 < b) → PO b o → Q (.ref b) { s with heap := h', toks := tk' }) → wpAny (model PRG c.w) c.A (eval e (envX cn sc c.L a ccd cl)) Q (fun _ _ => False) s)
    (next : ∀ b o s', LS c cl s0 (upd ρ x (.ref b)) Fx ((b, o) :: M) P k s' → PO b o → wpAny (model PRG c.w) c.A (execs rest (envX cn sc c.L a ccd cl)) Q (fun _ _ => False) s') :
    wpAny (model PRG c.w) c.A (execs (.Assign [.Name x p] e pos :: rest) (envX cn sc c.L a ccd cl)) Q (fun _ _ => False) s := by
  refine wpAny_execs_cons (wpAny_Assign_Name ?_ hsw)
  obtain ⟨m, cs, hp, tk, rfl, St, C, hm, nd, dj⟩ := S
  obtain ⟨⟨t, n, N⟩, oh⟩ := St.N
  refine he _ m _ _ St.F N fun b o h' tk' F' N' lb ho => ?_
  have S2 : LS c cl s0 ρ Fx ((b, o) :: M) P k { s0 with heap := h', toks := tk' } := by
    have e0 : cs ++ (Fx ++ (b, o) :: M) = (cs ++ Fx) ++ (b, o) :: M := by simp
    have fb : ∀ q ∈ ((cs ++ (Fx ++ M)) ++ P), q.1 ≠ b := fun q hq => Nat.ne_of_lt (lb q (List.mem_cons_of_mem _ hq))
    refine ⟨m, cs, h', tk', rfl, ⟨F', ⟨⟨t, n, jsub N' fun p hp => ?_⟩, fun p hp => ?_⟩, St.k0⟩, C, hm, ?_, fun p hp q hq => ?_⟩
    · simp only [List.mem_cons, List.mem_append] at hp ⊢
      rcases hp with h | (h | h | h | h) | h <;> simp [h]
    · simp only [List.mem_cons, List.mem_append] at hp
      rcases hp with (h | h | h | h) | h
      · exact oh p (by simp [h])
      · exact oh p (by simp [h])
      · rw [h]; exact (Nat.ne_of_lt (lb _ List.mem_cons_self)).symm
      · exact oh p (by simp [h])
      · exact oh p (by simp [h])
    · rw [e0, List.map_append, List.map_cons]
      refine List.perm_middle.nodup_iff.mpr (List.nodup_cons.mpr ⟨fun hin => ?_, ?_⟩)
      · rw [← List.map_append] at hin
        obtain ⟨q, hq, e⟩ := List.mem_map.mp hin
        exact fb q (by simp only [List.mem_append] at hq ⊢; rcases hq with (h | h) | h <;> simp [h]) e
      · rwa [← List.map_append, List.append_assoc]
    · simp only [List.mem_cons, List.mem_append] at hq
      rcases hq with h | h | h | h
      · exact dj p hp q (by simp [h])
      · exact dj p hp q (by simp [h])
      · rw [h]; exact (fb p (List.mem_append_right _ hp)).symm
      · exact dj p hp q (by simp [h])
  exact S2.store hk hcl hx fun s' S' => next b o s' S' ho
end

end
section
section
variable {c : Cx} {R Y : Led} {m : Str → Option Value} {env : Env} {mean : ExcName → Option Value} {mg mb : Str → Option Value}
/-- two new objects on top -/
theorem Ev.made2 {P : Led → Value → Prop} {s : Shared} {Z U : Led} {k : Int} {Q : Value → Shared → Prop} {x dx : Addr} {o1 o2 : Obj} {h' : Heap} {tk' b : Nat} {hd : Addr × Obj} (S : St c m Z k s) (hh : ∃ t n, hd = (c.hand, listOf #[.ref c.sc, .int k t] n))
    (F' : Fr c.h₀ c.L h' m) (N' : News c.h₀ c.L h' ((x, o1) :: (dx, o2) :: hd :: Z)) (lt : ∀ q ∈ hd :: Z, q.1 < dx) (lx : @LT.lt Nat instLTNat dx x) (hP : P ((x, o1) :: (dx, o2) :: U) (.ref x))
    (ret : ∀ v V k' h' tk', k' ≤ k + b → St c m (V ++ Z) k' { s with heap := h', toks := tk' } → Fresh V Z → P (V ++ U) v → Q v { s with heap := h', toks := tk' }) : Q (.ref x) { s with heap := h', toks := tk' } := by
  obtain ⟨S', f'⟩ := S.push (V := [(x, o1), (dx, o2)]) F' hh N' (fun p hp q hq => by
    rcases List.mem_cons.mp hp with rfl | hp
    · exact Nat.ne_of_lt (Nat.lt_trans (lt q hq) lx)
    · rw [List.mem_singleton.mp hp]; exact Nat.ne_of_lt (lt q hq))
  exact ret _ [(x, o1), (dx, o2)] k h' tk' (by omega) S' f' hP
/-- what a subscription is -/
inductive IsSub (tops : List Str) (Y : Led) (v : Value) : Prop
  | mk (sub ds tl g1 g2 g3 g4 g5 s1 s2 s3 s4 s5 v1 v3 v4 v5 k)
    (x0 : v = .ref sub)
    (x1 : (sub, instObj 40 ds) ∈ Y)
    (x2 : (ds, dictOf [⟨g1, .str (Str.ofString "version") s1, v1⟩, ⟨g2, .str (Str.ofString "topics") s2, .ref tl⟩, ⟨g3, .str (Str.ofString "user_data") s3, v3⟩, ⟨g4, .str (Str.ofString "owned_partitions") s4, v4⟩, ⟨g5, .str (Str.ofString "generation_id") s5, v5⟩] k) ∈ Y)
    (x3 : DatIn Y (.ref tl) (.list (tops.map Dat.str))) : IsSub tops Y v
theorem monoSub (tops : List Str) : Mono (IsSub tops) := by
  rintro Y Y' v hs ⟨sub, ds, tl, g1, g2, g3, g4, g5, s1, s2, s3, s4, s5, v1, v3, v4, v5, k, h1, h2, h3, h4⟩
  exact ⟨sub, ds, tl, g1, g2, g3, g4, g5, s1, s2, s3, s4, s5, v1, v3, v4, v5, k, h1, hs _ h2, hs _ h3, h4.mono hs⟩
theorem ec_sub {tv tu : Tok} {v : Value} {tops : List Str} (D : Deep c mean mg mb) (hv : DatIn Y v (.list (tops.map Dat.str))) : Ev c R Y m 0 (call (.ref 40) [.int 0 tv, v, .bytes #[] tu]) (IsSub tops) := by
  intro s Z U k Q _ hY hU S hb ret
  obtain ⟨tl, vs, n, rfl, hm, hall⟩ := dlist hv
  obtain ⟨dp, un, gd, cn, cs, a, ccd, cl, outer, A₀, base, e, B, hk, hd, hu⟩ := D.deep
  obtain ⟨hd0, hh, N⟩ := S.hd
  rw [e]
  refine sub_spec B S.F D.X N D.T hk (by omega) (by omega) fun x dx h1 h2 h3 h4 h5 t1 t2 t3 t4 t5 v1 v3 v4 v5 n h' tk' F' N' l1 l2 => ?_
  exact Ev.made2 S hh F' N' l1 l2 ⟨x, dx, tl, h1, h2, h3, h4, h5, t1, t2, t3, t4, t5, v1, v3, v4, v5, n, rfl, List.mem_cons_self, List.mem_cons_of_mem _ List.mem_cons_self, hv.mono fun p hp => List.mem_cons_of_mem _ (List.mem_cons_of_mem _ (hY p hp))⟩ ret
abbrev IsMem (mm : Mem) : Led → Value → Prop := fun Y v => MemAt Y v mm
theorem ec_mem {tn : Tok} {ov v : Value} {mm : Mem} (D : Deep c mean mg mb) (ho : DatIn Y ov (ownD mm.own)) (hv : IsSub mm.topics Y v) : Ev c R Y m 0 (call (.ref 87) [.str mm.name tn, ov, v]) (IsMem mm) := by
  intro s Z U k Q _ hY hU S hb ret
  obtain ⟨sub, ds, tl, g1, g2, g3, g4, g5, s1, s2, s3, s4, s5, v1, v3, v4, v5, kk, rfl, q2, q3, q4⟩ := hv
  obtain ⟨to, rfl⟩ : ∃ to, ov = ownV mm.own to := by
    cases hm : mm.own with
    | none => rw [hm] at ho; cases ho; exact ⟨0, rfl⟩
    | some g => rw [hm] at ho; obtain ⟨t, rfl⟩ := dstr ho; exact ⟨t, rfl⟩
  obtain ⟨dp, un, gd, cn, cs, a, ccd, cl, outer, A₀, base, e, B, hk, hd, hu⟩ := D.deep
  obtain ⟨hd0, hh, N⟩ := S.hd
  rw [e]
  refine mem_spec B S.F D.X N D.T hk (by omega) (by omega) fun x dx h1 h2 h3 t1 t2 t3 n h' tk' F' N' l1 l2 => ?_
  have up : ∀ p ∈ Y, p ∈ (x, instObj 87 dx) :: (dx, dictOf [⟨h1, .str (Str.ofString "member_id") t1, .str mm.name tn⟩, ⟨h2, .str (Str.ofString "group_instance_id") t2, ownV mm.own to⟩, ⟨h3, .str (Str.ofString "metadata") t3, .ref sub⟩] n) :: U := fun p hp => List.mem_cons_of_mem _ (List.mem_cons_of_mem _ (hY p hp))
  exact Ev.made2 S hh F' N' l1 l2 ⟨x, dx, sub, ds, tl, h1, h2, h3, t1, t2, t3, tn, to, n, g1, g2, g3, g4, g5, s1, s2, s3, s4, s5, v1, v3, v4, v5, kk, rfl, List.mem_cons_self, List.mem_cons_of_mem _ List.mem_cons_self, up _ q2, up _ q3, q4.mono up⟩ ret
/-- what a cluster is -/
inductive IsCluW (w : World) (cln : List (Str × List Int)) (Y : Led) (v : Value) : Prop
  | mk (clu dc hc tc pd nc po ckv)
    (x0 : v = .ref clu)
    (x1 : (clu, instObj 122 dc) ∈ Y)
    (x2 : (dc, dictOf [⟨hc, .str (Str.ofString "_partitions") tc, .ref pd⟩] nc) ∈ Y)
    (x3 : (pd, po) ∈ Y)
    (x4 : po.IsDictOf (PySem.strKind PRG w) ckv)
    (x5 : (pd == sysModules) = false)
    (x6 : ckv.map (·.1) = cln.map (·.1))
    (x7 : DatAll Y (ckv.map (·.2)) (cln.map fun p => Dat.list (p.2.map Dat.int))) : IsCluW w cln Y v
abbrev IsClu (c : Cx) := IsCluW c.w
theorem dict_all {kvs : List (Str × Value)} {cln : List (Str × List Int)} {Y : Led} (he : kvs.map (·.1) = cln.map (·.1)) (nd : (cln.map (·.1)).Nodup) (h : ∀ x u, valueAt kvs x = some u → DatIn Y u (Dat.list (((lookT cln x).getD []).map Dat.int))) : DatAll Y (kvs.map (·.2)) (cln.map fun p => Dat.list (p.2.map Dat.int)) := by
  induction cln generalizing kvs with
  | nil =>
    have : kvs = [] := by simpa using he
    subst this; exact .nil
  | cons q cln ih =>
    match kvs, he, h with
    | p :: kvs, he2, h =>
      simp only [List.map_cons, List.cons.injEq] at he2
      simp only [List.map_cons, List.nodup_cons] at nd
      obtain ⟨p1, p2⟩ := p
      obtain ⟨q1, q2⟩ := q
      obtain ⟨e, he3⟩ := he2
      dsimp only at e
      subst e
      refine .cons ?_ (ih he3 nd.2 fun x u hu => ?_)
      · have := h p1 p2 (by simp [valueAt])
        simpa [lookT] using this
      · have hx : x ≠ p1 := by
          rintro rfl
          unfold valueAt at hu
          obtain ⟨r, hr, rfl⟩ := Option.map_eq_some_iff.mp hu
          have h1 := List.mem_of_find?_eq_some hr
          have h2 := List.find?_some hr
          simp only [decide_eq_true_eq] at h2
          exact nd.1 (he3 ▸ h2 ▸ List.mem_map.mpr ⟨r, h1, rfl⟩)
        have := h x u (by
          unfold valueAt at hu ⊢
          rw [List.find?_cons_of_neg (by simpa using Ne.symm hx)]; exact hu)
        unfold lookT at this ⊢
        rwa [List.find?_cons_of_neg (by simpa using Ne.symm hx)] at this
theorem ec_clu {v : Value} {cln : List (Str × List Int)} (D : Deep c mean mg mb) (nd : (cln.map (·.1)).Nodup) (hv : IsDict c (cln.map (·.1)) (fun x => IsD (.list (((lookT cln x).getD []).map Dat.int))) Y v) : Ev c R Y m 0 (call (.ref 122) [v]) (IsClu c cln) := by
  intro s Z U k Q _ hY hU S hb ret
  obtain ⟨pd, po, ckv, rfl, hm, hlo, hpo, he, hc⟩ := hv
  obtain ⟨dp, un, gd, cn, cs, a, ccd, cl, outer, A₀, base, e, B, hk, hd, hu⟩ := D.deep
  obtain ⟨hd0, hh, N⟩ := S.hd
  rw [e]
  refine clu_spec B S.F D.X N D.T hk (by omega) (by omega) fun x dx h1 t1 n h' tk' F' N' l1 l2 => ?_
  have up : ∀ p ∈ Y, p ∈ (x, instObj 122 dx) :: (dx, dictOf [⟨h1, .str (Str.ofString "_partitions") t1, .ref pd⟩] n) :: U := fun p hp => List.mem_cons_of_mem _ (List.mem_cons_of_mem _ (hY p hp))
  exact Ev.made2 S hh F' N' l1 l2 ⟨x, dx, h1, t1, pd, n, po, ckv, rfl, List.mem_cons_self, List.mem_cons_of_mem _ List.mem_cons_self, up _ hm, hpo, hlo, he, (dict_all he nd hc).mono up⟩ ret
theorem monoClu (cln : List (Str × List Int)) : Mono (IsClu c cln) := by
  rintro Y Y' v hs ⟨clu, dc, hc, tc, pd, nc, po, ckv, h0, h1, h2, h3, h4, h5, h6, h7⟩
  exact ⟨clu, dc, hc, tc, pd, nc, po, ckv, h0, hs _ h1, hs _ h2, hs _ h3, h4, h5, h6, h7.mono hs⟩
/-- the members, as a list -/
def IsMems (mems : List Mem) : Led → Value → Prop := fun Y v => ∃ ml mvs nm, v = .ref ml ∧ (ml, listOf (List.toArray mvs) nm) ∈ Y ∧ mvs.length = mems.length ∧ ∀ (i : Nat) (v : Value) (mm : Mem), mvs[i]? = some v → mems[i]? = some mm → MemAt Y v mm
theorem monoMems (mems : List Mem) : Mono (IsMems mems) := by
  rintro Y Y' v hs ⟨ml, mvs, nm, h0, h1, h2, h3⟩
  exact ⟨ml, mvs, nm, h0, hs _ h1, h2, fun i v mm a b => (h3 i v mm a b).mono hs⟩
end

end
section
section
variable {c : Cx} {R Y : Led} {m : Str → Option Value} {env : Env} {mean : ExcName → Option Value} {mg mb : Str → Option Value}
theorem ea_consD {pos : Pos} {e : Expr} {rest : List Expr} {b1 b2 : Nat} {d : Dat} {ds : List Dat} (h1 : Ev c R Y m b1 (eval e env) (IsD d)) (h2 : Ev c R Y m b2 (spliced (backTo pos (starEach rest env))) (fun Y vs => DatAll Y vs ds))
    (he : starEach (e :: rest) env = (false, eval e env) :: starEach rest env) : Ev c R Y m (b1 + b2) (spliced (backTo pos (starEach (e :: rest) env))) (fun Y vs => DatAll Y vs (d :: ds)) :=
  (ea_cons (monoD d) h1 h2 he).imp fun Y vs ⟨v, us, e, p, q⟩ => e ▸ .cons p q
theorem ev_listL {elts : List Expr} {pos : Pos} {b : Nat} {ds : List Dat} (h : Ev c R Y m b (spliced (backTo pos (starEach elts env))) (fun Y vs => DatAll Y vs ds)) (hz : ds.length ≤ 1000) : Ev c R Y m b (eval (.List elts pos) env) (IsD (.list ds)) := by
  intro s Z U k Q hR hY hU S hk ret
  refine List_ ?_
  refine Ev.seq (b1 := b) (b2 := 0) (P := IsD (.list ds)) h (fun vs Y' hs pv => ?_) hR hY hU S (by omega) ret
  intro s Z U k Q _ hY' _ S _ ret
  obtain ⟨hd, hh, N⟩ := S.hd
  exact newList_K S.F N (fun D h' F' N' l => Ev.made (P := IsD (.list ds)) (tk' := s.toks) S hh F' N' l (DatIn.list List.mem_cons_self (pv.mono fun x hx => List.mem_cons_of_mem _ (hY' x hx))) ret) (by rw [pv.length, sizeLine_eq]; omega)
/-- as ev_bin, the values not known ahead -/
theorem ev_binE {l r : Expr} {op : Operator} {pos : Pos} {b1 b2 : Nat} {P1 P2 P : Led → Value → Prop} (m1 : Mono P1) (h1 : Ev c R Y m b1 (eval l env) P1) (h2 : Ev c R Y m b2 (eval r env) P2)
    (h3 : ∀ v u Y', (∀ p ∈ Y, p ∈ Y') → P1 Y' v → P2 Y' u → Ev c R Y' m 0 (binaryOp op v u) P) : Ev c R Y m (b1 + b2) (eval (.BinOp l op r pos) env) P := by
  intro s Z U k Q hR hY hU S hk ret
  refine wpAny_BinOp ?_
  refine h1 s Z U k _ hR hY hU S (by omega) fun v V k1 hp1 tk1 hk1 S1 f1 p1 => ?_
  refine Ev.seq (b1 := b2) (b2 := 0) (Y := V ++ U) (h2.sub (fun _ h => h) fun p hp => List.mem_append_right _ (hY p hp)) (fun u Y' hs p2 => h3 v u Y' (fun p hp => hs p (List.mem_append_right _ (hY p hp))) (m1 _ _ _ hs p1) p2)
    (fun p hp => List.mem_append_right _ (hR p hp)) (fun _ h => h) (fun p hp => (List.mem_append.mp hp).elim (List.mem_append_left _) fun h => List.mem_append_right _ (hU p h)) S1 (by omega) fun v2 V2 k2 hp2 tk2 hk2 S2 f2 p2 => ?_
  refine ret v2 (V2 ++ V) k2 hp2 tk2 (by omega) ?_ (f1.app f2) ?_
  · rw [List.append_assoc]; exact S2
  · rw [List.append_assoc]; exact p2
theorem ev_addI {l r : Expr} {pos : Pos} {b1 b2 : Nat} {x : Int} {Pr : Int → Prop} (h1 : Ev c R Y m b1 (eval l env) (IsD (.int x))) (h2 : Ev c R Y m b2 (eval r env) (IsI Pr)) : Ev c R Y m (b1 + b2) (eval (.BinOp l .Add r pos) env) (IsI fun z => ∃ r, z = x + r ∧ Pr r) :=
  ev_binE (monoD _) h1 h2 fun v u Y' _ hv hu => by
    obtain ⟨t, rfl⟩ := dint hv
    obtain ⟨z, t2, rfl, hz⟩ := hu
    intro s Z U k Q _ _ _ S _ ret
    exact add_int (ret _ [] k s.heap _ (by omega) S.self Fresh.nil ⟨_, _, rfl, z, rfl, hz⟩)
theorem ev_gtAny {l r : Expr} {pos : Pos} {t : Sem Value} {b1 b2 : Nat} {y : Int} {Pr : Int → Prop} (h1 : Ev c R Y m b1 (eval l env) (IsI Pr)) (h2 : Ev c R Y m b2 (eval r env) (IsD (.int y))) (hm : behindInMarks .Gt r = false) :
    Ev c R Y m (b1 + b2) (isTrue (.Compare l [.Gt] [r] pos) env t) (fun _ _ => True) := by
  intro s Z U k Q hR hY hU S hk ret
  refine wpAny_isTrue_Compare1 ?_ hm
  refine h1 s Z U k _ hR hY hU S (by omega) fun v V k1 hp1 tk1 hk1 S1 f1 p1 => ?_
  refine h2 _ (V ++ Z) (V ++ U) k1 _ (fun p hp => List.mem_append_right _ (hR p hp)) (fun p hp => List.mem_append_right _ (hY p hp)) (fun p hp => (List.mem_append.mp hp).elim (List.mem_append_left _) fun h => List.mem_append_right _ (hU p h)) S1 (by omega) fun u V2 k2 hp2 tk2 hk2 S2 f2 p2 => ?_
  obtain ⟨z, t1, rfl, _⟩ := p1
  obtain ⟨t2, rfl⟩ := dint p2
  refine PySem.P.gt_int (wpAny_truthy_bool ?_)
  refine ret _ (V2 ++ V) k2 hp2 tk2 (by omega) ?_ (f1.app f2) trivial
  rw [List.append_assoc]; exact S2
/-- _law_next(hand, e) -/
theorem ev_next {x h : Str} {p p2 pos : Pos} {e : Expr} {b : Nat} {many : Int} (D : Deep c mean mg mb) (r : Rd c R m env x (.ref 189)) (rh : Rd c R m env h (.ref c.hand)) (he : Ev c R Y m b (eval e env) (IsD (.int many))) (h1 : 0 < many) (h2 : many < 100)
    (hs1 : starEach [.Name h p2, e] env = (false, eval (.Name h p2) env) :: starEach [e] env) (hs2 : starEach [e] env = (false, eval e env) :: starEach [] env) (hpl : (backTo pos (starEach [e] env)).any (·.1) = false) :
    Ev c R Y m (0 + b + 1) (eval (.Call (.Name x p) [.Name h p2, e] [] pos) env) (IsI fun r => 0 ≤ r ∧ r < many) :=
  ev_callK D.X (by kernel_rfl) r (ea2 (P1 := fun _ u => u = .ref c.hand) (fun _ _ _ _ h => h) (monoD _) (ev_nameV rh) he hs1 hs2) (fun vs Y' hs pv => by
    obtain ⟨v, u, rfl, rfl, hu⟩ := pv
    obtain ⟨t, rfl⟩ := dint hu
    exact (ec_next D h1 h2).imp fun Y v ⟨r, t, e, a, b⟩ => ⟨r, t, e, a, b⟩) hs1 hpl
/-- _law_mixed(hand, e) -/
theorem ev_mixed {x h : Str} {p p2 pos : Pos} {e : Expr} {b n : Nat} {PD : List Dat → Prop} (D : Deep c mean mg mb) (r : Rd c R m env x (.ref 196)) (rh : Rd c R m env h (.ref c.hand)) (he : Ev c R Y m b (eval e env) (fun Y v => ∃ ds, PD ds ∧ DatIn Y v (.list ds))) (hn : ∀ ds, PD ds → ds.length ≤ n) (h60 : n ≤ 60)
    (hs1 : starEach [.Name h p2, e] env = (false, eval (.Name h p2) env) :: starEach [e] env) (hs2 : starEach [e] env = (false, eval e env) :: starEach [] env) (hpl : (backTo pos (starEach [e] env)).any (·.1) = false) :
    Ev c R Y m (0 + b + n) (eval (.Call (.Name x p) [.Name h p2, e] [] pos) env) (fun Y v => ∃ es, (∃ ds, PD ds ∧ es.Perm ds) ∧ DatIn Y v (.list es)) :=
  ev_callK D.X (by kernel_rfl) r (ea2 (P1 := fun _ u => u = .ref c.hand) (fun _ _ _ _ h => h) (fun Y Y' v hs ⟨ds, a, b⟩ => ⟨ds, a, b.mono hs⟩) (ev_nameV rh) he hs1 hs2) (fun vs Y' hs pv => by
    obtain ⟨v, u, rfl, rfl, ds, hds, hu⟩ := pv
    exact ((ec_mixed D hu (Nat.le_trans (hn ds hds) h60)).more (hn ds hds)).imp fun Y v ⟨es, a, b⟩ => ⟨es, ⟨ds, hds, a⟩, b⟩) hs1 hpl
end

end
section
noncomputable def stm0 : Stmt := by
  refine' (?f : (k : Stmt) → k = nthS st_13B 0 → Stmt) _ ?h
  case h =>
    conv => rhs; whnf
  case f => exact fun k _ => k
noncomputable def stm1 : Stmt := by
  refine' (?f : (k : Stmt) → k = nthS st_13B 1 → Stmt) _ ?h
  case h =>
    conv => rhs; whnf
  case f => exact fun k _ => k
noncomputable def stm2 : Stmt := by
  refine' (?f : (k : Stmt) → k = nthS st_13B 2 → Stmt) _ ?h
  case h =>
    conv => rhs; whnf
  case f => exact fun k _ => k
noncomputable def stm3 : Stmt := by
  refine' (?f : (k : Stmt) → k = nthS st_13B 3 → Stmt) _ ?h
  case h =>
    conv => rhs; whnf
  case f => exact fun k _ => k
noncomputable def stm4 : Stmt := by
  refine' (?f : (k : Stmt) → k = nthS st_13B 4 → Stmt) _ ?h
  case h =>
    conv => rhs; whnf
  case f => exact fun k _ => k
noncomputable def stm5 : Stmt := by
  refine' (?f : (k : Stmt) → k = nthS st_13B 5 → Stmt) _ ?h
  case h =>
    conv => rhs; whnf
  case f => exact fun k _ => k
noncomputable def stm6 : Stmt := by
  refine' (?f : (k : Stmt) → k = nthS st_13B 6 → Stmt) _ ?h
  case h =>
    conv => rhs; whnf
  case f => exact fun k _ => k
noncomputable def stm7 : Stmt := by
  refine' (?f : (k : Stmt) → k = nthS st_13B 7 → Stmt) _ ?h
  case h =>
    conv => rhs; whnf
  case f => exact fun k _ => k
noncomputable def stm8 : Stmt := by
  refine' (?f : (k : Stmt) → k = nthS st_13B 8 → Stmt) _ ?h
  case h =>
    conv => rhs; whnf
  case f => exact fun k _ => k
noncomputable def stm9 : Stmt := by
  refine' (?f : (k : Stmt) → k = nthS st_13B 9 → Stmt) _ ?h
  case h =>
    conv => rhs; whnf
  case f => exact fun k _ => k
noncomputable def stm10 : Stmt := by
  refine' (?f : (k : Stmt) → k = nthS st_13B 10 → Stmt) _ ?h
  case h =>
    conv => rhs; whnf
  case f => exact fun k _ => k
noncomputable def stm11 : Stmt := by
  refine' (?f : (k : Stmt) → k = nthS st_13B 11 → Stmt) _ ?h
  case h =>
    conv => rhs; whnf
  case f => exact fun k _ => k
noncomputable def stm12 : Stmt := by
  refine' (?f : (k : Stmt) → k = nthS st_13B 12 → Stmt) _ ?h
  case h =>
    conv => rhs; whnf
  case f => exact fun k _ => k
noncomputable def stm13 : Stmt := by
  refine' (?f : (k : Stmt) → k = nthS st_13B 13 → Stmt) _ ?h
  case h =>
    conv => rhs; whnf
  case f => exact fun k _ => k
noncomputable def stm14 : Stmt := by
  refine' (?f : (k : Stmt) → k = nthS st_13B 14 → Stmt) _ ?h
  case h =>
    conv => rhs; whnf
  case f => exact fun k _ => k
noncomputable def stm15 : Stmt := by
  refine' (?f : (k : Stmt) → k = nthS st_13B 15 → Stmt) _ ?h
  case h =>
    conv => rhs; whnf
  case f => exact fun k _ => k
noncomputable def lw16 : List Stmt := []
noncomputable def lw15 : List Stmt := stm15 :: lw16
noncomputable def lw14 : List Stmt := stm14 :: lw15
noncomputable def lw13 : List Stmt := stm13 :: lw14
noncomputable def lw12 : List Stmt := stm12 :: lw13
noncomputable def lw11 : List Stmt := stm11 :: lw12
noncomputable def lw10 : List Stmt := stm10 :: lw11
noncomputable def lw9 : List Stmt := stm9 :: lw10
noncomputable def lw8 : List Stmt := stm8 :: lw9
noncomputable def lw7 : List Stmt := stm7 :: lw8
noncomputable def lw6 : List Stmt := stm6 :: lw7
noncomputable def lw5 : List Stmt := stm5 :: lw6
noncomputable def lw4 : List Stmt := stm4 :: lw5
noncomputable def lw3 : List Stmt := stm3 :: lw4
noncomputable def lw2 : List Stmt := stm2 :: lw3
noncomputable def lw1 : List Stmt := stm1 :: lw2
noncomputable def lw0 : List Stmt := stm0 :: lw1
end
section
noncomputable def sta0 : Stmt := by
  refine' (?f : (k : Stmt) → k = nthS ct_9_2B 0 → Stmt) _ ?h
  case h =>
    conv => rhs; whnf
  case f => exact fun k _ => k
noncomputable def sta1 : Stmt := by
  refine' (?f : (k : Stmt) → k = nthS ct_9_2B 1 → Stmt) _ ?h
  case h =>
    conv => rhs; whnf
  case f => exact fun k _ => k
noncomputable def sta2 : Stmt := by
  refine' (?f : (k : Stmt) → k = nthS ct_9_2B 2 → Stmt) _ ?h
  case h =>
    conv => rhs; whnf
  case f => exact fun k _ => k
noncomputable def sta3 : Stmt := by
  refine' (?f : (k : Stmt) → k = nthS ct_9_2B 3 → Stmt) _ ?h
  case h =>
    conv => rhs; whnf
  case f => exact fun k _ => k
noncomputable def sta4 : Stmt := by
  refine' (?f : (k : Stmt) → k = nthS ct_9_2B 4 → Stmt) _ ?h
  case h =>
    conv => rhs; whnf
  case f => exact fun k _ => k
noncomputable def sta5 : Stmt := by
  refine' (?f : (k : Stmt) → k = nthS ct_9_2B 5 → Stmt) _ ?h
  case h =>
    conv => rhs; whnf
  case f => exact fun k _ => k
noncomputable def sta6 : Stmt := by
  refine' (?f : (k : Stmt) → k = nthS ct_9_2B 6 → Stmt) _ ?h
  case h =>
    conv => rhs; whnf
  case f => exact fun k _ => k
noncomputable def sta7 : Stmt := by
  refine' (?f : (k : Stmt) → k = nthS ct_9_2B 7 → Stmt) _ ?h
  case h =>
    conv => rhs; whnf
  case f => exact fun k _ => k
noncomputable def aw8 : List Stmt := []
noncomputable def aw7 : List Stmt := sta7 :: aw8
noncomputable def aw6 : List Stmt := sta6 :: aw7
noncomputable def aw5 : List Stmt := sta5 :: aw6
noncomputable def aw4 : List Stmt := sta4 :: aw5
noncomputable def aw3 : List Stmt := sta3 :: aw4
noncomputable def aw2 : List Stmt := sta2 :: aw3
noncomputable def aw1 : List Stmt := sta1 :: aw2
noncomputable def aw0 : List Stmt := sta0 :: aw1
end
section
abbrev pKV (q : Str × Addr) : Str × Value := (q.1, .ref q.2)
section
variable {c : Cx} {cn : Str} {sc : Scope} {a : Addr} {ccd : Value} {cl : List (Str × Addr)} {s0 s : Shared} {ρ : Str → Option Value} {Fx M P : Led} {k : Int}
theorem LS.perm {M' : Led} (S : LS c cl s0 ρ Fx M P k s) (h : M.Perm M') : LS c cl s0 ρ Fx M' P k s := by
  obtain ⟨m, cs, hp, tk, rfl, St, C, hm, nd, dj⟩ := S
  have e : (cs ++ (Fx ++ M)).Perm (cs ++ (Fx ++ M')) := (h.append_left Fx).append_left cs
  exact ⟨m, cs, hp, tk, rfl, St.sub fun p hp => (List.mem_append.mp hp).elim (fun h' => List.mem_append_left _ (e.symm.subset h')) (List.mem_append_right _), C, hm, (e.map _).nodup nd, fun p hp q hq => dj p hp q (e.symm.subset hq)⟩
theorem LS.tok (S : LS c cl s0 ρ Fx M P k s) (t : Nat) : LS c cl s0 ρ Fx M P k { s with toks := t } := by
  obtain ⟨m, cs, hp, tk, rfl, St, C, hm, nd, dj⟩ := S
  exact ⟨m, cs, hp, t, rfl, ⟨St.F, St.N, St.k0⟩, C, hm, nd, dj⟩
/-- a new object joins the owned ones -/
theorem LS.alloc (S : LS c cl s0 ρ Fx M P k s) : ∃ m Z, Fr c.h₀ c.L s.heap m ∧ News c.h₀ c.L s.heap Z ∧ (∀ p ∈ M ++ P, p ∈ Z) ∧
    ∀ b o h' tk', Fr c.h₀ c.L h' m → News c.h₀ c.L h' ((b, o) :: Z) → (∀ p ∈ Z, p.1 < b) → LS c cl s0 ρ Fx ((b, o) :: M) P k { s with heap := h', toks := tk' } := by
  obtain ⟨m, cs, hp, tk, rfl, St, C, hm, nd, dj⟩ := S
  obtain ⟨⟨t, n, N⟩, oh⟩ := St.N
  refine ⟨m, _, St.F, N, fun p hp => ?_, fun b o h' tk' F' N' lb => ?_⟩
  · refine List.mem_cons_of_mem _ ?_
    rcases List.mem_append.mp hp with h | h
    · exact List.mem_append_left _ (List.mem_append_right _ (List.mem_append_right _ h))
    · exact List.mem_append_right _ h
  · have fb : ∀ q ∈ ((cs ++ (Fx ++ M)) ++ P), q.1 ≠ b := fun q hq => Nat.ne_of_lt (lb q (List.mem_cons_of_mem _ hq))
    have hpm : (cs ++ (Fx ++ (b, o) :: M)).Perm ((b, o) :: (cs ++ (Fx ++ M))) := by
      rw [← List.append_assoc, ← List.append_assoc]
      exact List.perm_middle
    have mem : ∀ p ∈ (cs ++ (Fx ++ (b, o) :: M)) ++ P, p = (b, o) ∨ p ∈ (cs ++ (Fx ++ M)) ++ P := fun p hp => by
      rcases List.mem_append.mp hp with h | h
      · rcases List.mem_cons.mp (hpm.subset h) with h | h
        · exact .inl h
        · exact .inr (List.mem_append_left _ h)
      · exact .inr (List.mem_append_right _ h)
    refine ⟨m, cs, h', tk', rfl, ⟨F', ⟨⟨t, n, jsub N' fun p hp => ?_⟩, fun p hp => ?_⟩, St.k0⟩, C, hm, (hpm.map _).symm.nodup ?_, fun p hp q hq => ?_⟩
    · rcases List.mem_cons.mp hp with h | h
      · exact List.mem_cons_of_mem _ (h ▸ List.mem_cons_self)
      · rcases mem p h with h | h
        · exact h ▸ List.mem_cons_self
        · exact List.mem_cons_of_mem _ (List.mem_cons_of_mem _ h)
    · rcases mem p hp with rfl | h
      · exact (Nat.ne_of_lt (lb _ List.mem_cons_self)).symm
      · exact oh p h
    · refine List.nodup_cons.mpr ⟨fun hin => ?_, nd⟩
      obtain ⟨q, hq, e⟩ := List.mem_map.mp hin
      exact fb q (List.mem_append_left _ hq) e
    · rcases List.mem_cons.mp (hpm.subset hq) with h | h
      · rw [h]; exact (fb p (List.mem_append_right _ hp)).symm
      · exact dj p hp q h
/-- a dict whose values are owned objects -/
abbrev oWN (ob : Str → Obj) (q : Str × Addr) : Addr × Obj := (q.2, ob q.1)
abbrev DM (d : Addr) (od : Obj) (qs : List (Str × Addr)) (ob : Str → Obj) (K : Led) : Led := (d, od) :: (qs.map (oWN ob) ++ K)
structure DOk (c : Cx) (d : Addr) (od : Obj) (qs : List (Str × Addr)) : Prop where
  lo : (d == sysModules) = false
  od : od.IsDictOf (SK c) (qs.map pKV)
  nd : (qs.map (·.1)).Nodup
theorem pKV_names (qs : List (Str × Addr)) : (qs.map pKV).map (·.1) = qs.map (·.1) := by rw [List.map_map]; rfl
theorem pKV_at {qs : List (Str × Addr)} {x : Str} {u : Value} (h : valueAt (qs.map pKV) x = some u) : ∃ b, (x, b) ∈ qs ∧ u = .ref b := by
  unfold valueAt at h
  obtain ⟨q, hq1, rfl⟩ := Option.map_eq_some_iff.mp h
  have h1 := List.find?_some hq1
  obtain ⟨q0, hq0, rfl⟩ := List.mem_map.mp (List.mem_of_find?_eq_some hq1)
  simp only [decide_eq_true_eq] at h1
  exact ⟨q0.2, by rw [← h1]; exact hq0, rfl⟩
theorem EvL.pool {α : Type} {b : Nat} {t : Sem α} {PP : Led → α → Prop} {V : Led} (h : EvL c cl ρ Fx M P b t PP) : EvL c cl ρ Fx M (V ++ P) b t PP := fun m cs C hm => (h m cs C hm).sub (fun p hp => by
  rcases List.mem_append.mp hp with h | h
  · exact List.mem_append_left _ h
  · exact List.mem_append_right _ (List.mem_append_right _ h)) fun p hp => List.mem_append_right _ hp
/-- d.setdefault(key, new) -/
theorem ls_setdef {o ke de : Expr} {ap cp : Pos} {Q : Value → Shared → Prop} {env : Env} {d : Addr} {od : Obj} {qs : List (Str × Addr)} {ob : Str → Obj} {K : Led} {t : Str} {pl : Sem Bool} {PO : Addr → Obj → Prop}
    (S : LS c cl s0 ρ Fx (DM d od qs ob K) P k s) (ok : DOk c d od qs) (hz : qs.length ≤ 1000) (hk : k ≤ 890)
    (ho : EvL c cl ρ Fx (DM d od qs ob K) P 0 (eval o env) (fun _ v => v = .ref d)) (hke : EvL c cl ρ Fx (DM d od qs ob K) P 0 (eval ke env) (IsD (.str t)))
    (hde : ∀ (s : Shared) (m : Str → Option Value) (Z : Led) (Q : Value → Shared → Prop), Fr c.h₀ c.L s.heap m → News c.h₀ c.L s.heap Z → (∀ b o h' tk', Fr c.h₀ c.L h' m → News c.h₀ c.L h' ((b, o) :: Z) → (∀ p ∈ Z, p.1 < b) → PO b o → Q (.ref b) { s with heap := h', toks := tk' }) → wpAny (model PRG c.w) c.A (eval de env) Q (fun _ _ => False) s)
    (hc : eval (.Call (.Attribute o (Str.ofString "setdefault") ap) [ke, de] [] cp) env = (do
      let ov ← eval o env
      standAt ap.atName
      let (f, first) ← holding [ov] (getMethod ov (Str.ofString "setdefault") pl)
      callWith cp f first (backTo cp (starEach [ke, de] env)) []))
    (hs : starEach [ke, de] env = (false, eval ke env) :: starEach [de] env) (hs2 : starEach [de] env = (false, eval de env) :: starEach [] env) (hpl : (backTo cp (starEach [de] env)).any (·.1) = false)
    (next : ∀ b qs' od' ob' V k' s', k' ≤ k → LS c cl s0 ρ Fx (DM d od' qs' ob' K) (V ++ P) k' s' → DOk c d od' qs' → (t, b) ∈ qs' → ((t ∈ qs.map (·.1) ∧ qs' = qs ∧ ob' = ob) ∨ (t ∉ qs.map (·.1) ∧ qs' = qs ++ [(t, b)] ∧ PO b (ob' t) ∧ ∀ x, x ≠ t → ob' x = ob x)) → Q (.ref b) s') :
    wpAny (model PRG c.w) c.A (eval (.Call (.Attribute o (Str.ofString "setdefault") ap) [ke, de] [] cp) env) Q (fun _ _ => False) s := by
  refine MethodCall_ (S.eval ho (by omega) fun v V k1 s1 hk1 S1 p1 => ?_) hc
  subst p1
  obtain ⟨m1, Z1, F1, N1, sub1, _⟩ := S1.alloc
  refine kob_method (knd := SK c) PySem.F.slot_dict_setdefault PySem.F.type_dict_setdefault N1 (sub1 _ List.mem_cons_self) ok.od ?_
  refine callWith_method1 (first := [.ref d]) (wpAny_items_cons ?_ hs) hs hpl
  refine S1.eval hke.pool (by omega) fun v V2 k2 s2 hk2 S2 p2 => ?_
  obtain ⟨tt, rfl⟩ := dstr p2
  refine wpAny_items_cons ?_ hs2
  obtain ⟨m2, Z2, F2, N2, _, al2⟩ := S2.alloc
  refine hde s2 m2 Z2 _ F2 N2 fun b o3 h3 tk3 F3 N3 lb hPO => ?_
  have S3 := al2 b o3 h3 tk3 F3 N3 lb
  refine wpAny_items_nil ?_
  show wpAny _ _ (call (.builtin "dict.setdefault") [.ref d, .str t tt, .ref b]) _ _ _
  obtain ⟨m4, Z4, g, F4, N4, U4, sub4, back4⟩ := LS.open (pre := [(b, o3)]) (b := d) (o := od) (post := qs.map (oWN ob) ++ K) S3
  have hsz : (qs.map pKV).length ≤ sizeLine := by rw [List.length_map, sizeLine_eq]; omega
  cases hv : valueAt (qs.map pKV) t with
  | some u =>
    obtain ⟨b', hb', rfl⟩ := pKV_at hv
    refine kob_setdef_there (knd := SK c) N4 (sub4 _ (List.mem_append_left _ (List.mem_cons_of_mem _ List.mem_cons_self))) ok.od ok.lo (strKind_is _ _ _ _) (PySem.F.args_dict_setdefault_3 _ _ _) hv hsz ?_
    have S5 := LS.freeze (pre := []) (b := b) (o := o3) (S3.tok (tk3 + 1))
    exact next b' qs od ob ((b, o3) :: (V2 ++ V)) k2 _ (by omega) (by rw [List.cons_append, List.append_assoc]; exact S5) ok hb' (.inl ⟨List.mem_map.mpr ⟨_, hb', rfl⟩, rfl, rfl⟩)
  | none =>
    have hnt : t ∉ qs.map (·.1) := fun h => by
      obtain ⟨u, hu⟩ := valueAt_mem (kvs := qs.map pKV) (by rw [pKV_names]; exact h)
      rw [hv] at hu; cases hu
    refine kob_setdef_new (knd := SK c) F4 N4 U4 ok.od ok.lo (strKind_is _ _ _ _) (PySem.F.args_dict_setdefault_3 _ _ _) hv hsz fun h5 od5 F5 N5 hd5 => ?_
    have S5 := back4 od5 h5 (tk3 + 1) F5 N5
    rw [stored_none hv] at hd5
    refine next b (qs ++ [(t, b)]) od5 (fun x => if x = t then o3 else ob x) (V2 ++ V) k2 _ (by omega) ?_ ⟨ok.lo, by rw [List.map_append]; exact hd5, ?_⟩ (List.mem_append_right _ List.mem_cons_self) (.inr ⟨hnt, rfl, by rw [if_pos rfl]; exact hPO, fun x hx => if_neg hx⟩)
    · rw [List.append_assoc]
      refine LS.perm S5 ?_
      have e : (qs ++ [(t, b)]).map (oWN fun x => if x = t then o3 else ob x) = qs.map (oWN ob) ++ [(b, o3)] := by
        rw [List.map_append]
        congr 1
        · refine List.map_congr_left fun q hq => ?_
          have : q.1 ≠ t := fun e => hnt (List.mem_map.mpr ⟨q, hq, e⟩)
          simp only [oWN, if_neg this]
        · simp [oWN]
      show ((b, o3) :: (d, od5) :: (qs.map (oWN ob) ++ K)).Perm ((d, od5) :: ((qs ++ [(t, b)]).map (oWN fun x => if x = t then o3 else ob x) ++ K))
      rw [e, List.append_assoc]
      exact (List.Perm.swap _ _ _).trans (List.perm_middle.symm.cons _)
    · rw [List.map_append]
      exact List.nodup_append.mpr ⟨ok.nd, by simp, fun x hx y hy => by
        have : y = t := by simpa using hy
        rw [this]; exact fun e => hnt (e ▸ hx)⟩
/-- the append to an owned list, behind its object -/
theorem ap_tail {e : Expr} {cp : Pos} {b2 : Nat} {PP : Led → Value → Prop} {Q : Value → Shared → Prop} {env : Env} {pre post : Led} {b : Addr} {vs : List Value} {n : Nat} {pl : Sem Bool}
    (S : LS c cl s0 ρ Fx (pre ++ (b, listOf (List.toArray vs) n) :: post) P k s) (he : EvL c cl ρ Fx (pre ++ (b, listOf (List.toArray vs) n) :: post) P b2 (eval e env) PP) (hk : k + b2 ≤ 890) (hz : vs.length ≤ 1000) (hs : starEach [e] env = (false, eval e env) :: starEach [] env)
    (next : ∀ v V k' s', k' ≤ k + b2 → LS c cl s0 ρ Fx (pre ++ (b, listOf (List.toArray (vs ++ [v])) (n + 1)) :: post) (V ++ P) k' s' → PP (V ++ P) v → Q .none s') :
    wpAny (model PRG c.w) c.A (getMethod (.ref b) (Str.ofString "append") pl) (fun fx s₂ => wpAny (model PRG c.w) c.A (callWith cp fx.1 fx.2 (backTo cp (starEach [e] env)) []) Q (fun _ _ => False) s₂) (fun _ _ => False) s := by
  obtain ⟨m, news, g, F, N, U, sub, back⟩ := S.open
  refine listMethod_K N (sub (b, listOf (List.toArray vs) n) (by simp)) PySem.F.slot_list_append PySem.F.type_list_append ?_
  refine callWith_method1 (first := [.ref b]) (wpAny_items_cons ?_ hs) hs rfl
  refine S.eval he hk fun v V2 k2 s2 hk2 S2 p2 => ?_
  refine wpAny_items_nil ?_
  obtain ⟨m2, news2, g2, F2, N2, U2, sub2, back2⟩ := S2.open
  show wpAny _ _ (call (.builtin "list.append") [.ref b, v]) _ _ _
  refine append_K F2 N2 (updOf U2) (fun h' F' N' => ?_) (by rw [List.size_toArray, sizeLine_eq]; omega)
  rw [List.push_toArray] at N'
  exact next v V2 k2 _ hk2 (back2 _ h' s2.toks F' N') p2
end

end
section
theorem allObj_of {ws : List (Addr × String)} {k : List (Addr × Obj) → Prop} (h : ∀ its, Objs ws its → k its) : AllObj ws k := by
  induction ws generalizing k with
  | nil => exact h [] trivial
  | cons w ws ih => exact fun o ho => ih fun its hi => h ((w.1, o) :: its) ⟨⟨rfl, ho⟩, hi⟩
theorem subL_of {l all : Led} (h : ∀ p ∈ l, p ∈ all) : SubL l all := by
  induction l with
  | nil => trivial
  | cons p l ih => exact ⟨h p List.mem_cons_self, ih fun q hq => h q (List.mem_cons_of_mem _ hq)⟩
theorem perm_ins (cs its Fx M : Led) : (cs ++ ((its ++ Fx) ++ M)).Perm (its ++ (cs ++ (Fx ++ M))) := by
  rw [← List.append_assoc, ← List.append_assoc, ← List.append_assoc, ← List.append_assoc]
  exact ((List.perm_append_comm (l₁ := cs) (l₂ := its)).append_right Fx).append_right M
section
variable {c : Cx} {cn : Str} {sc : Scope} {a : Addr} {ccd : Value} {cl : List (Str × Addr)} {s0 s : Shared} {ρ : Str → Option Value} {Fx M P : Led} {k : Int}
/-- turns over items whose iterators stay out of sight -/
theorem ls_turns {ws : List (Addr × String)} {keep : Led} {xs : List Itm} {target : Expr} {body : List Stmt} {Q : Flow → Shared → Prop} {m : Str → Option Value} {cs : Led} {t : Tok} {n : Nat}
    (C : CellsAre ρ cl cs) (hm : ∀ x, cl.lookup x = none → m x = ρ x) (nd : ((cs ++ (Fx ++ M)).map (·.1)).Nodup) (dj : ∀ p ∈ P, ∀ q ∈ cs ++ (Fx ++ M), q.1 ≠ p.1) (oh : ∀ p ∈ (cs ++ (Fx ++ M)) ++ P, p.1 ≠ c.hand) (k0 : 0 ≤ k)
    (hkeep : ∀ p ∈ keep, p ∈ P) (hws : (ws.map (·.1)).Nodup) (oW : ∀ p ∈ (c.hand, listOf #[.ref c.sc, .int k t] n) :: ((cs ++ (Fx ++ M)) ++ P), ∀ w ∈ ws, p.1 ≠ w.1)
    (J : Nat → (Str → Option Value) → Led → Led → Int → Prop) (j0 : J 0 ρ M P k)
    (turn : ∀ i itm its ρ' M' P' k' v h tk, xs[i]? = some itm → itm.Is v h → (∀ p ∈ P, p ∈ P') → J i ρ' M' P' k' → LS c cl s0 ρ' (its ++ Fx) M' P' k' { s0 with heap := h, toks := tk } →
      wpAny (model PRG c.w) c.A (assign target (envX cn sc c.L a ccd cl) v) (fun _ s1 => wpAny (model PRG c.w) c.A (execs body (envX cn sc c.L a ccd cl)) (fun f s2 => (f = .next ∨ f = .cont) ∧ ∃ ρ2 M2 P2 k2, LS c cl s0 ρ2 (its ++ Fx) M2 P2 k2 s2 ∧ (∀ p ∈ P', p ∈ P2) ∧ J (i + 1) ρ2 M2 P2 k2) (fun _ _ => False) s1) (fun _ _ => False) { s0 with heap := h, toks := tk })
    (done : ∀ ρ' M' P' k' h tk, (∀ p ∈ P, p ∈ P') → J xs.length ρ' M' P' k' → LS c cl s0 ρ' Fx M' P' k' { s0 with heap := h, toks := tk } → Q .next { s0 with heap := h, toks := tk }) {hh : Heap} {tt : Nat} :
    ItemsRest PRG c.w c.A (fun _ _ => False) c.h₀ (envX cn sc c.L a ccd cl) target body Q { s0 with heap := hh, toks := tt } ws keep xs m ((c.hand, listOf #[.ref c.sc, .int k t] n) :: ((cs ++ (Fx ++ M)) ++ P)) := by
  refine jitems (fun i => InvF c cl Fx P (fun nx => ∀ p ∈ nx, ∀ w ∈ ws, p.1 ≠ w.1) (J i))
    ?_ ?_ ?_ xs 0 m _ rfl (Nat.zero_le _) ⟨cs, ρ, M, P, k, t, n, rfl, k0, C, hm, nd, dj, oh, oW, fun _ h => h, j0⟩
  · rintro i m' nx ⟨cs', ρ', M', P2, k', t, nn, rfl, _, _, _, _, _, _, _, hsub, _⟩
    exact subL_of fun p hp => List.mem_cons_of_mem _ (List.mem_append_right _ (hsub p (hkeep p hp)))
  · rintro i itm m' nx v h tk hxi ⟨cs', ρ', M', P2, k', t, nn, rfl, hk0, C', hm', nd', dj', oh', oW', hsub, hJ⟩ hIs F'
    refine allObj_of fun its hits N' => ?_
    have emap := Objs.map hits
    have inW : ∀ q ∈ its, ∃ w ∈ ws, q.1 = w.1 := fun q hq => by
      have : q.1 ∈ ws.map (·.1) := emap ▸ List.mem_map.mpr ⟨q, hq, rfl⟩
      obtain ⟨w, hw, e⟩ := List.mem_map.mp this
      exact ⟨w, hw, e.symm⟩
    have offI : ∀ p ∈ (c.hand, listOf #[.ref c.sc, .int k' t] nn) :: ((cs' ++ (Fx ++ M')) ++ P2), ∀ q ∈ its, p.1 ≠ q.1 := fun p hp q hq e => by
      obtain ⟨w, hw, e2⟩ := inW q hq
      exact oW' p hp w hw (e.trans e2)
    have S2 : LS c cl s0 ρ' (its ++ Fx) M' P2 k' { s0 with heap := h, toks := tk } := by
      refine ⟨m', cs', h, tk, rfl, ⟨F', ⟨⟨t, nn, jsub N' fun p hp => ?_⟩, fun p hp => ?_⟩, hk0⟩, C', hm', ((perm_ins cs' its Fx M').map _).symm.nodup ?_, fun p hp q hq => ?_⟩
      · rcases List.mem_cons.mp hp with h | h
        · exact List.mem_append_right _ (h ▸ List.mem_cons_self)
        · rcases List.mem_append.mp h with h | h
          · rcases List.mem_append.mp ((perm_ins cs' its Fx M').subset h) with h | h
            · exact List.mem_append_left _ h
            · exact List.mem_append_right _ (List.mem_cons_of_mem _ (List.mem_append_left _ h))
          · exact List.mem_append_right _ (List.mem_cons_of_mem _ (List.mem_append_right _ h))
      · rcases List.mem_append.mp hp with h | h
        · rcases List.mem_append.mp ((perm_ins cs' its Fx M').subset h) with h | h
          · exact (offI _ List.mem_cons_self p h).symm
          · exact oh' p (List.mem_append_left _ h)
        · exact oh' p (List.mem_append_right _ h)
      · rw [List.map_append]
        refine List.nodup_append.mpr ⟨emap ▸ hws, nd', fun x hx y hy => ?_⟩
        obtain ⟨q, hq, rfl⟩ := List.mem_map.mp hx
        obtain ⟨p, hp, rfl⟩ := List.mem_map.mp hy
        exact (offI p (List.mem_cons_of_mem _ (List.mem_append_left _ hp)) q hq).symm
      · rcases List.mem_append.mp ((perm_ins cs' its Fx M').subset hq) with h | h
        · exact (offI p (List.mem_cons_of_mem _ (List.mem_append_right _ hp)) q h).symm
        · exact dj' p hp q h
    refine wpAny_mono (turn i itm its ρ' M' P2 k' v h tk hxi hIs hsub hJ S2) (fun _ s3 h3 => wpAny_mono h3 (fun f s4 h4 => ?_) fun _ _ e => e) fun _ _ e => e
    obtain ⟨hf, ρ4, M4, P4, k4, L4, hs4, hJ4⟩ := h4
    obtain ⟨m4, cs4, hp4, tk4, rfl, St4, C4, hm4, nd4, dj4⟩ := L4
    obtain ⟨⟨t4, n4, N4⟩, o4⟩ := St4.N
    have hpm := perm_ins cs4 its Fx M4
    have nd5 := (hpm.map (·.1)).nodup nd4
    rw [List.map_append] at nd5
    have nd6 := List.nodup_append.mp nd5
    have memR : ∀ p ∈ cs4 ++ (Fx ++ M4), p ∈ cs4 ++ ((its ++ Fx) ++ M4) := fun p hp => hpm.symm.subset (List.mem_append_right _ hp)
    have memI : ∀ p ∈ its, p ∈ cs4 ++ ((its ++ Fx) ++ M4) := fun p hp => hpm.symm.subset (List.mem_append_left _ hp)
    have offN : ∀ p ∈ (c.hand, listOf #[.ref c.sc, .int k4 t4] n4) :: ((cs4 ++ (Fx ++ M4)) ++ P4), ∀ q ∈ its, p.1 ≠ q.1 := fun p hp q hq => by
      rcases List.mem_cons.mp hp with rfl | hp
      · exact (o4 q (List.mem_append_left _ (memI q hq))).symm
      · rcases List.mem_append.mp hp with h | h
        · exact (nd6.2.2 q.1 (List.mem_map.mpr ⟨q, hq, rfl⟩) p.1 (List.mem_map.mpr ⟨p, h, rfl⟩)).symm
        · exact (dj4 p h q (memI q hq)).symm
    have fin : UnrEndW c.h₀ c.L { s0 with heap := h, toks := tk } its (InvF c cl Fx P (fun nx => ∀ p ∈ nx, ∀ w ∈ ws, p.1 ≠ w.1) (J (i + 1))) { s0 with heap := hp4, toks := tk4 } := by
      refine ⟨hp4, tk4, m4, _, rfl, St4.F, jsub N4 (news' := its ++ (c.hand, listOf #[.ref c.sc, .int k4 t4] n4) :: ((cs4 ++ (Fx ++ M4)) ++ P4)) fun p hp => ?_, offN, cs4, ρ4, M4, P4, k4, t4, n4, rfl, St4.k0, C4, hm4, nd6.2.1, fun p hp q hq => dj4 p hp q (memR q hq), fun p hp => o4 p ?_, fun p hp w hw => ?_, fun p hp => hs4 p (hsub p hp), hJ4⟩
      · rcases List.mem_append.mp hp with h | h
        · exact List.mem_cons_of_mem _ (List.mem_append_left _ (memI p h))
        · rcases List.mem_cons.mp h with h | h
          · exact h ▸ List.mem_cons_self
          · rcases List.mem_append.mp h with h | h
            · exact List.mem_cons_of_mem _ (List.mem_append_left _ (memR p h))
            · exact List.mem_cons_of_mem _ (List.mem_append_right _ h)
      · rcases List.mem_append.mp hp with h | h
        · exact List.mem_append_left _ (memR p h)
        · exact List.mem_append_right _ h
      · have : w.1 ∈ its.map (·.1) := emap ▸ List.mem_map.mpr ⟨w, hw, rfl⟩
        obtain ⟨q, hq, e⟩ := List.mem_map.mp this
        exact e ▸ offN p hp q hq
    rcases hf with rfl | rfl
    · exact fin
    · exact fin
  · rintro h tk m' nx ⟨cs', ρ', M', P2, k', t, nn, rfl, hk0, C', hm', nd', dj', oh', oW', hsub, hJ⟩ F' N'
    exact done ρ' M' P2 k' h tk hsub hJ ⟨m', cs', h, tk, rfl, ⟨F', ⟨⟨t, nn, N'⟩, oh'⟩, hk0⟩, C', hm', nd', dj'⟩
/-- a pair into two names -/
theorem ls_pair {x y : Str} {px py pos : Pos} {kn : Nat} {T : Addr} {v1 v2 : Value} {Q : Unit → Shared → Prop} (S : LS c cl s0 ρ Fx M P k s) (hh : c.A.handled = none) (hk : sc.kind = .function) (hcl : (cl.map (·.1)).Nodup) (hx : Held c cn sc a ccd cl x) (hy : Held c cn sc a ccd cl y) (hT : IsTup s.heap T #[v1, v2])
    (ha : assignEach [.Name x px, .Name y py] (envX cn sc c.L a ccd cl) = [(false, assign (.Name x px) (envX cn sc c.L a ccd cl)), (false, assign (.Name y py) (envX cn sc c.L a ccd cl))])
    (next : ∀ s', LS c cl s0 (upd (upd ρ x v1) y v2) Fx M P k s' → Q () s') : wpAny (model PRG c.w) c.A (assign (.Tuple [.Name x px, .Name y py] kn pos) (envX cn sc c.L a ccd cl) (.ref T)) Q (fun _ _ => False) s := by
  obtain ⟨m, cs, hp, tk, rfl, St, C, hm, nd, dj⟩ := S
  obtain ⟨⟨t, n, N⟩, oh⟩ := St.N
  refine unpackN_ St.F N hT hh (by rw [ha]; rfl) (by rw [ha]; rfl) fun h' F' N' => ?_
  have S' : LS c cl s0 ρ Fx M P k { s0 with heap := h', toks := tk } := ⟨m, cs, h', tk, rfl, ⟨F', ⟨⟨t, n, N'⟩, oh⟩, St.k0⟩, C, hm, nd, dj⟩
  rw [ha]
  refine assignInOrder_cons (assign_Name (S'.store hk hcl hx fun s2 S2 => ?_))
  exact assignInOrder_cons (assign_Name (S2.store hk hcl hy fun s3 S3 => assignInOrder_nil (next s3 S3)))
end

end
section
section
variable {c : Cx} {cn : Str} {sc : Scope} {a : Addr} {ccd : Value} {cl : List (Str × Addr)} {s0 s : Shared} {ρ : Str → Option Value} {Fx M P : Led} {k : Int}
/-- for x, y in d.items() -/
theorem ls_items {x y : Str} {px py tp pos ap cp : Pos} {kn : Nat} {o : Expr} {body rest : List Stmt} {Q : Flow → Shared → Prop} {d : Addr} {od : Obj} {kvs : List (Str × Value)} {pl : Sem Bool} (S : LS c cl s0 ρ Fx M P k s) (hh : c.A.handled = none) (hk : sc.kind = .function) (hcl : (cl.map (·.1)).Nodup) (hx : Held c cn sc a ccd cl x) (hy : Held c cn sc a ccd cl y)
    (hs : ∀ v, foldedSetIterable (.Call (.Attribute o (Str.ofString "items") ap) [] [] cp) (envX cn sc c.L a ccd cl) v = pure v) (ho : EvL c cl ρ Fx M P 0 (eval o (envX cn sc c.L a ccd cl)) (fun _ v => v = .ref d)) (hm : (d, od) ∈ P) (hod : od.IsDictOf (SK c) kvs) (lo : (d == sysModules) = false) (hb : k ≤ 890)
    (hc : eval (.Call (.Attribute o (Str.ofString "items") ap) [] [] cp) (envX cn sc c.L a ccd cl) = (do
      let ov ← eval o (envX cn sc c.L a ccd cl)
      standAt ap.atName
      let (f, first) ← holding [ov] (getMethod ov (Str.ofString "items") pl)
      callWith cp f first (backTo cp (starEach [] (envX cn sc c.L a ccd cl))) []))
    (ha : assignEach [.Name x px, .Name y py] (envX cn sc c.L a ccd cl) = [(false, assign (.Name x px) (envX cn sc c.L a ccd cl)), (false, assign (.Name y py) (envX cn sc c.L a ccd cl))])
    (go : ∀ V k1, k1 ≤ k → ∃ J : Nat → (Str → Option Value) → Led → Led → Int → Prop, J 0 ρ M (V ++ P) k1 ∧
      (∀ i its ρ' M' P' k' s' kx tk u, kvs[i]? = some (kx, u) → (∀ p ∈ V ++ P, p ∈ P') → J i ρ' M' P' k' → LS c cl s0 (upd (upd ρ' x (.str kx tk)) y u) (its ++ Fx) M' P' k' s' →
        wpAny (model PRG c.w) c.A (execs body (envX cn sc c.L a ccd cl)) (fun f s2 => (f = .next ∨ f = .cont) ∧ ∃ ρ2 M2 P2 k2, LS c cl s0 ρ2 (its ++ Fx) M2 P2 k2 s2 ∧ (∀ p ∈ P', p ∈ P2) ∧ J (i + 1) ρ2 M2 P2 k2) (fun _ _ => False) s') ∧
      (∀ ρ' M' P' k' s', (∀ p ∈ V ++ P, p ∈ P') → J kvs.length ρ' M' P' k' → LS c cl s0 ρ' Fx M' P' k' s' → wpAny (model PRG c.w) c.A (execs rest (envX cn sc c.L a ccd cl)) Q (fun _ _ => False) s')) :
    wpAny (model PRG c.w) c.A (execs (.For (.Tuple [.Name x px, .Name y py] kn tp) (.Call (.Attribute o (Str.ofString "items") ap) [] [] cp) body [] pos :: rest) (envX cn sc c.L a ccd cl)) Q (fun _ _ => False) s := by
  refine wpAny_execs_cons ?_
  obtain ⟨m0, cs0, hp0, tk0, rfl, St0, _⟩ := id S
  refine jFor_turns (env := envX cn sc c.L a ccd cl) St0.F ?_ hs
  refine MethodCall_ (S.eval ho (by omega) fun v V k1 s1 hk1 S1 p1 => ?_) hc
  subst p1
  obtain ⟨m, cs, hp, tk, rfl, St, C, hm', nd, dj⟩ := S1
  obtain ⟨⟨t, n, N⟩, oh⟩ := St.N
  have hdN : ∀ (X : Led), (d, od) ∈ (c.hand, listOf #[.ref c.sc, .int k1 t] n) :: (X ++ (V ++ P)) := fun X => List.mem_cons_of_mem _ (List.mem_append_right _ (List.mem_append_right _ hm))
  refine kob_method (knd := SK c) PySem.F.slot_dict_items PySem.F.type_dict_items N (hdN _) hod ?_
  refine callWith_method0 ?_
  refine kta_callItems St.F N (hdN _) hod lo fun h' hvw F3 N3 => ?_
  refine kta_items (enc := PyData.str) hh F3 N3 hvw (hdN _) hod (fun k v hk => Value.isStrOf_shape hk) rfl fun I lI => ?_
  obtain ⟨J, j0, turn, done⟩ := go V k1 (by omega)
  refine ls_turns (s0 := s0) (tt := tk) C hm' nd dj oh St.k0 (fun p hp => by rw [List.mem_singleton.mp hp]; exact List.mem_append_right _ hm) (by simp) (fun p hp w hw => by rw [List.mem_singleton.mp hw]; exact Nat.ne_of_lt (lI p hp)) J j0 ?_ ?_
  · rintro i itm its ρ' M' P' k' v h tk' hxi hIs hsub hJ S'
    rw [List.getElem?_map] at hxi
    obtain ⟨⟨kx, u⟩, hkv, rfl⟩ := Option.map_eq_some_iff.mp hxi
    obtain ⟨T, tkt, rfl, hTup⟩ := hIs
    exact ls_pair S' hh hk hcl hx hy hTup ha fun s2 S2 => turn i its ρ' M' P' k' s2 kx tkt u hkv hsub hJ S2
  · rintro ρ' M' P' k' h tk' hsub hJ S'
    rw [List.length_map] at hJ
    exact done ρ' M' P' k' _ hsub hJ S'
/-- for x, y in enumerate(e) -/
theorem ls_enum {f x y : Str} {px py tp pos fp cp : Pos} {kn : Nat} {e : Expr} {body rest : List Stmt} {ds : List Dat} {Q : Flow → Shared → Prop} (S : LS c cl s0 ρ Fx M P k s) (hh : c.A.handled = none) (hk : sc.kind = .function) (hcl : (cl.map (·.1)).Nodup) (hx : Held c cn sc a ccd cl x) (hy : Held c cn sc a ccd cl y)
    (hs : ∀ v, foldedSetIterable (.Call (.Name f fp) [e] [] cp) (envX cn sc c.L a ccd cl) v = pure v) (hr : ∀ R m, Rd c R m (envX cn sc c.L a ccd cl) f (.type "enumerate")) (he : EvL c cl ρ Fx M P 0 (eval e (envX cn sc c.L a ccd cl)) (IsD (.list ds))) (hb : k ≤ 890)
    (hst : starEach [e] (envX cn sc c.L a ccd cl) = (false, eval e (envX cn sc c.L a ccd cl)) :: starEach [] (envX cn sc c.L a ccd cl))
    (ha : assignEach [.Name x px, .Name y py] (envX cn sc c.L a ccd cl) = [(false, assign (.Name x px) (envX cn sc c.L a ccd cl)), (false, assign (.Name y py) (envX cn sc c.L a ccd cl))])
    (go : ∀ V k1, k1 ≤ k → ∃ J : Nat → (Str → Option Value) → Led → Led → Int → Prop, J 0 ρ M (V ++ P) k1 ∧
      (∀ i its ρ' M' P' k' s' tk d u, ds[i]? = some d → DatIn P' u d → (∀ p ∈ V ++ P, p ∈ P') → J i ρ' M' P' k' → LS c cl s0 (upd (upd ρ' x (.int (i : Int) tk)) y u) (its ++ Fx) M' P' k' s' →
        wpAny (model PRG c.w) c.A (execs body (envX cn sc c.L a ccd cl)) (fun f s2 => (f = .next ∨ f = .cont) ∧ ∃ ρ2 M2 P2 k2, LS c cl s0 ρ2 (its ++ Fx) M2 P2 k2 s2 ∧ (∀ p ∈ P', p ∈ P2) ∧ J (i + 1) ρ2 M2 P2 k2) (fun _ _ => False) s') ∧
      (∀ ρ' M' P' k' s', (∀ p ∈ V ++ P, p ∈ P') → J ds.length ρ' M' P' k' → LS c cl s0 ρ' Fx M' P' k' s' → wpAny (model PRG c.w) c.A (execs rest (envX cn sc c.L a ccd cl)) Q (fun _ _ => False) s')) :
    wpAny (model PRG c.w) c.A (execs (.For (.Tuple [.Name x px, .Name y py] kn tp) (.Call (.Name f fp) [e] [] cp) body [] pos :: rest) (envX cn sc c.L a ccd cl)) Q (fun _ _ => False) s := by
  refine wpAny_execs_cons ?_
  obtain ⟨m0, cs0, hp0, tk0, rfl, St0, _⟩ := id S
  refine jFor_turns (env := envX cn sc c.L a ccd cl) St0.F ?_ hs
  refine Call_Name rfl (hr _ m0 _ _ k _ fp (fun _ h => h) St0 ?_)
  refine PyProof.Rows.callWith_type1 ?_ hst rfl
  refine wpAny_items_cons ?_ hst
  refine S.eval he (by omega) fun v V k1 s1 hk1 S1 p1 => ?_
  obtain ⟨l, vs, nl, rfl, hl, hall⟩ := dlist p1
  refine wpAny_items_nil ?_
  obtain ⟨m, cs, hp, tk, rfl, St, C, hm', nd, dj⟩ := S1
  obtain ⟨⟨t, n, N⟩, oh⟩ := St.N
  refine ktu_enum (vs := vs) hh St.F N (List.mem_cons_of_mem _ (List.mem_append_right _ hl)) rfl rfl rfl fun I lI => ?_
  obtain ⟨J, j0, turn, done⟩ := go V k1 (by omega)
  refine ls_turns (s0 := s0) (tt := tk) C hm' nd dj oh St.k0 (fun p hp => by rw [List.mem_singleton.mp hp]; exact hl) ?_ (fun p hp w hw => ?_) J j0 ?_ ?_
  · exact List.nodup_cons.mpr ⟨fun h => Nat.succ_ne_self I (List.mem_singleton.mp h), List.nodup_cons.mpr ⟨List.not_mem_nil, List.nodup_nil⟩⟩
  · rcases List.mem_cons.mp hw with rfl | hw
    · exact Nat.ne_of_lt (Nat.lt_succ_of_lt (lI p hp))
    · rw [List.mem_singleton.mp hw]; exact Nat.ne_of_lt (lI p hp)
  · rintro i itm its ρ' M' P' k' v h tk' hxi hIs hsub hJ S'
    have hi : i < vs.length := by
      have := (List.getElem?_eq_some_iff.mp hxi).1
      rwa [enumItems_length] at this
    rw [enumItems_get vs 0 i (List.getElem?_eq_getElem hi)] at hxi
    obtain rfl := Option.some.inj hxi
    obtain ⟨T, tkt, rfl, hTup⟩ := hIs
    obtain ⟨d, hd, hdv⟩ := datAll_get hall (List.getElem?_eq_getElem hi)
    have hTup : IsTup h T #[.int ((0 + i : Nat) : Int) tkt, vs[i]] := hTup
    rw [Nat.zero_add] at hTup
    exact ls_pair S' hh hk hcl hx hy hTup ha fun s2 S2 => turn i its ρ' M' P' k' s2 tkt d vs[i] hd (hdv.mono hsub) hsub hJ S2
  · rintro ρ' M' P' k' h tk' hsub hJ S'
    rw [enumItems_length, hall.length] at hJ
    exact done ρ' M' P' k' _ hsub hJ S'
end

end
section
section
variable {c : Cx} {cn : Str} {sc : Scope} {a : Addr} {ccd : Value} {cl : List (Str × Addr)} {s0 s : Shared} {ρ : Str → Option Value} {Fx M P : Led} {k : Int}
theorem dm_split {d b : Addr} {od : Obj} {qs : List (Str × Addr)} {ob : Str → Obj} {K : Led} {t : Str} (h : (t, b) ∈ qs) : ∃ q1 q2, qs = q1 ++ (t, b) :: q2 ∧ DM d od qs ob K = ((d, od) :: q1.map (oWN ob)) ++ (b, ob t) :: (q2.map (oWN ob) ++ K) := by
  obtain ⟨q1, q2, e⟩ := List.append_of_mem h
  exact ⟨q1, q2, e, by rw [DM, e, List.map_append, List.map_cons, List.append_assoc]; rfl⟩
theorem dm_join {d b : Addr} {od o : Obj} {qs q1 q2 : List (Str × Addr)} {ob : Str → Obj} {K : Led} {t : Str} (e : qs = q1 ++ (t, b) :: q2) (nd : (qs.map (·.1)).Nodup) : ((d, od) :: q1.map (oWN ob)) ++ (b, o) :: (q2.map (oWN ob) ++ K) = DM d od qs (fun x => if x = t then o else ob x) K := by
  have hne : ∀ q ∈ q1 ++ q2, q.1 ≠ t := by
    intro q hq e2
    rw [e, List.map_append, List.map_cons] at nd
    have := (List.nodup_cons.mp (List.perm_middle.nodup_iff.mp nd)).1
    rw [← List.map_append] at this
    exact this (e2 ▸ List.mem_map.mpr ⟨q, hq, rfl⟩)
  have go : ∀ l : List (Str × Addr), (∀ q ∈ l, q ∈ q1 ++ q2) → l.map (oWN ob) = l.map (oWN fun x => if x = t then o else ob x) := fun l hl => List.map_congr_left fun q hq => by
    simp only [oWN, if_neg (hne q (hl q hq))]
  rw [DM, e, List.map_append, List.map_cons, go q1 fun q hq => List.mem_append_left _ hq, go q2 fun q hq => List.mem_append_right _ hq, List.append_assoc]
  simp [oWN]
/-- d.setdefault(key, []).append(e) -/
theorem ls_sdapp {o ke e : Expr} {ap cp ap2 cp2 lp pos : Pos} {rest : List Stmt} {Q : Flow → Shared → Prop} {env : Env} {d : Addr} {od : Obj} {qs : List (Str × Addr)} {ob : Str → Obj} {K : Led} {t : Str} {pl pl2 : Sem Bool} {PP : Led → Value → Prop}
    (S : LS c cl s0 ρ Fx (DM d od qs ob K) P k s) (ok : DOk c d od qs) (hob : ∀ x ∈ qs.map (·.1), ∃ vs n, ob x = listOf (List.toArray vs) n ∧ vs.length ≤ 1000) (hz : qs.length ≤ 1000) (hk : k ≤ 890)
    (ho : EvL c cl ρ Fx (DM d od qs ob K) P 0 (eval o env) (fun _ v => v = .ref d)) (hke : EvL c cl ρ Fx (DM d od qs ob K) P 0 (eval ke env) (IsD (.str t))) (he : ∀ M', EvL c cl ρ Fx M' P 0 (eval e env) PP)
    (hc : eval (.Call (.Attribute o (Str.ofString "setdefault") ap) [ke, .List [] lp] [] cp) env = (do
      let ov ← eval o env
      standAt ap.atName
      let (f, first) ← holding [ov] (getMethod ov (Str.ofString "setdefault") pl)
      callWith cp f first (backTo cp (starEach [ke, .List [] lp] env)) []))
    (hs : starEach [ke, .List [] lp] env = (false, eval ke env) :: starEach [.List [] lp] env) (hs2 : starEach [.List [] lp] env = (false, eval (.List [] lp) env) :: starEach [] env)
    (hc2 : eval (.Call (.Attribute (.Call (.Attribute o (Str.ofString "setdefault") ap) [ke, .List [] lp] [] cp) (Str.ofString "append") ap2) [e] [] cp2) env = (do
      let ov ← eval (.Call (.Attribute o (Str.ofString "setdefault") ap) [ke, .List [] lp] [] cp) env
      standAt ap2.atName
      let (f, first) ← holding [ov] (getMethod ov (Str.ofString "append") pl2)
      callWith cp2 f first (backTo cp2 (starEach [e] env)) []))
    (hs3 : starEach [e] env = (false, eval e env) :: starEach [] env)
    (hi : interactive env = false) (hsw : swapsWith (.Call (.Attribute (.Call (.Attribute o (Str.ofString "setdefault") ap) [ke, .List [] lp] [] cp) (Str.ofString "append") ap2) [e] [] cp2) none pos.line env = pure false)
    (next : ∀ qs' od' ob' v V k' s', k' ≤ k → LS c cl s0 ρ Fx (DM d od' qs' ob' K) (V ++ P) k' s' → DOk c d od' qs' → ((t ∈ qs.map (·.1) ∧ qs' = qs ∧ ∀ vs n, ob t = listOf (List.toArray vs) n → ob' t = listOf (List.toArray (vs ++ [v])) (n + 1)) ∨ (t ∉ qs.map (·.1) ∧ qs'.map (·.1) = qs.map (·.1) ++ [t] ∧ ob' t = listOf (List.toArray [v]) 1)) → (∀ x, x ≠ t → ob' x = ob x) → PP (V ++ P) v → wpAny (model PRG c.w) c.A (execs rest env) Q (fun _ _ => False) s') :
    wpAny (model PRG c.w) c.A (execs (.Expr (.Call (.Attribute (.Call (.Attribute o (Str.ofString "setdefault") ap) [ke, .List [] lp] [] cp) (Str.ofString "append") ap2) [e] [] cp2) pos :: rest) env) Q (fun _ _ => False) s := by
  refine wpAny_execs_cons (wpAny_Expr_any (MethodCall_ ?_ hc2) hi hsw)
  refine ls_setdef (PO := fun _ o => o = listOf #[] 0) S ok hz hk ho hke (fun s m Z Q F N ret => List_ (wpAny_items_nil (newList_K F N (fun d h' F' N' l => ret d _ h' s.toks F' N' l rfl) (by rw [sizeLine_eq]; decide)))) hc hs hs2 rfl fun b qs' od' ob' V k1 s1 hk1 S1 ok1 hb hcase => ?_
  obtain ⟨q1, q2, eq1, eM⟩ := dm_split (d := d) (od := od') (ob := ob') (K := K) hb
  rw [eM] at S1
  obtain ⟨vs, n, hvs, hl⟩ : ∃ vs n, ob' t = listOf (List.toArray vs) n ∧ vs.length ≤ 1000 := by
    rcases hcase with ⟨hin, rfl, rfl⟩ | ⟨_, _, hnew, _⟩
    · exact hob t hin
    · exact ⟨[], 0, hnew, Nat.zero_le _⟩
  rw [hvs] at S1
  refine ap_tail (b2 := 0) S1 (he _).pool (by omega) hl hs3 fun v V2 k2 s2 hk2 S2 p2 => ?_
  rw [dm_join eq1 ok1.nd, ← List.append_assoc] at S2
  rw [← List.append_assoc] at p2
  refine next qs' od' _ v (V2 ++ V) k2 s2 (by omega) S2 ok1 ?_ (fun x hx => ?_) p2
  · rcases hcase with ⟨hin, rfl, rfl⟩ | ⟨hnin, rfl, hnew, _⟩
    · refine .inl ⟨hin, rfl, fun vs' n' h' => ?_⟩
      rw [hvs] at h'
      have h1 := congrArg Obj.data h'
      simp only [PySem.W.listOf, Data.seq.injEq] at h1
      have h2 : vs = vs' := by simpa using h1.1
      rw [if_pos rfl, h2, h1.2]
    · refine .inr ⟨hnin, by rw [List.map_append]; rfl, ?_⟩
      rw [hnew] at hvs
      have h1 := congrArg Obj.data hvs
      simp only [PySem.W.listOf, Data.seq.injEq] at h1
      have h2 : vs = [] := by simpa using h1.1.symm
      rw [if_pos rfl, h2, ← h1.2]; rfl
  · show (if x = t then _ else ob' x) = ob x
    rw [if_neg hx]
    rcases hcase with ⟨_, _, rfl⟩ | ⟨_, _, _, h⟩
    · rfl
    · exact h x hx
/-- the members, one by one -/
theorem em_mems {R Y : Led} {m : Str → Option Value} {env : Env} {i0 : Expr} {b : Nat} {mems : List Mem} (hh : c.A.handled = none) (h : Ev c R Y m b (eval i0 env) (IsMems mems)) :
    EvG c R Y m b env i0 (fun _ : Unit => True) (fun _ => mems.length) (fun _ i Y v => ∃ mm, mems[i]? = some mm ∧ MemAt Y v mm) := by
  intro s Z U k Q hR hY hU S hk ret
  refine h s Z U k _ hR hY hU S hk fun v V k' h' tk' hk' S' f' p' => ?_
  obtain ⟨l, vs, n, rfl, hm, hlv, hall⟩ := p'
  obtain ⟨hd, hh', N⟩ := S'.hd
  have hm' : (l, listOf (List.toArray vs) n) ∈ V ++ Z := (List.mem_append.mp hm).elim (List.mem_append_left _) fun h => List.mem_append_right _ (hU _ h)
  refine jiter_list hh S'.F N (List.mem_cons_of_mem _ hm') fun I h2 J F2 N2 l => ?_
  rw [hlv] at J
  refine ret () I _ _ V k' h2 tk' _ trivial J (fun i v hi hv => ⟨mems[i], List.getElem?_eq_getElem hi, hall i v _ hv (List.getElem?_eq_getElem hi)⟩) (fun p hp => by rw [List.mem_singleton.mp hp]; exact hm) hk' ?_ f' (fun p hp => l p (List.mem_cons_of_mem _ hp)) ?_
  · obtain ⟨t, n, rfl⟩ := hh'
    exact ⟨F2, ⟨⟨t, n, N2⟩, S'.N.2⟩, S'.k0⟩
  · obtain ⟨t, n, rfl⟩ := hh'
    exact l _ List.mem_cons_self
theorem mem_name {Y : Led} {v : Value} {mm : Mem} (h : MemAt Y v mm) : HasAttr 87 (Str.ofString "member_id") (IsD (.str mm.name)) Y v := by
  obtain ⟨x, dx, sub, ds, tl, h1, h2, h3, t1, t2, t3, tn, to, n, g1, g2, g3, g4, g5, s1, s2, s3, s4, s5, v1, v3, v4, v5, k, rfl, e1, e2, e3, e4, e5⟩ := h
  exact ⟨x, dx, _, n, .str mm.name tn, rfl, e1, e2, by kernel_rfl, by rfl, .str _ _⟩
theorem mem_own {Y : Led} {v : Value} {mm : Mem} (h : MemAt Y v mm) : HasAttr 87 (Str.ofString "group_instance_id") (IsD (ownD mm.own)) Y v := by
  obtain ⟨x, dx, sub, ds, tl, h1, h2, h3, t1, t2, t3, tn, to, n, g1, g2, g3, g4, g5, s1, s2, s3, s4, s5, v1, v3, v4, v5, k, rfl, e1, e2, e3, e4, e5⟩ := h
  exact ⟨x, dx, _, n, ownV mm.own to, rfl, e1, e2, by kernel_rfl, by cases mm.own <;> rfl, ownV_dat _ _ _⟩
end
/-- what a name holds -/
def Hs (ρ : Str → Option Value) (l : List (Str × Value)) : Prop := ∀ x v, l.lookup x = some v → ρ x = some v
theorem Hs.add {ρ : Str → Option Value} {l : List (Str × Value)} {x : Str} {v : Value} (h : Hs ρ l) : Hs (Mine.upd ρ x v) ((x, v) :: l) := by
  intro y u hy
  rw [List.lookup_cons] at hy
  by_cases e : y = x
  · subst e
    rw [show (y == y) = true from beq_self_eq_true y] at hy
    rw [upd_self]; exact hy
  · rw [show (y == x) = false from beq_eq_false_iff_ne.mpr e] at hy
    rw [upd_ne e]; exact h y u hy
theorem Hs.drop {ρ : Str → Option Value} {l : List (Str × Value)} {x : Str} {v : Value} (h : Hs ρ ((x, v) :: l)) (hx : l.lookup x = none) : Hs ρ l := by
  intro y u hy
  refine h y u ?_
  rw [List.lookup_cons]
  have e : y ≠ x := fun e => by rw [e, hx] at hy; cases hy
  rw [show (y == x) = false from beq_eq_false_iff_ne.mpr e]; exact hy
theorem Hs.keep {ρ : Str → Option Value} {l : List (Str × Value)} {x : Str} {v : Value} (h : Hs ρ l) (hx : l.lookup x = none) : Hs (Mine.upd ρ x v) l := fun y u hy => by
  have e : y ≠ x := fun e => by rw [e, hx] at hy; cases hy
  rw [upd_ne e]; exact h y u hy
theorem Hs.cons {ρ : Str → Option Value} {l : List (Str × Value)} {x : Str} {v : Value} (h : Hs ρ l) (hx : ρ x = some v) : Hs ρ ((x, v) :: l) := fun y u hy => by
  rw [List.lookup_cons] at hy
  by_cases e : y = x
  · subst e
    rw [show (y == y) = true from beq_self_eq_true y] at hy
    rw [hx]; exact hy
  · rw [show (y == x) = false from beq_eq_false_iff_ne.mpr e] at hy
    exact h y u hy

end
section
noncomputable abbrev AC (L : Addr) : List (Str × Addr) := cellsFrom (L + 1) ct_9_2S.names []
noncomputable abbrev AE (c : Cx) (fa : Addr) (cd : Value) : Env := envX (Str.ofString "RangePartitionAssignor.assign") ct_9_2S c.L fa cd (AC c.L)
theorem ac_nodup (L : Addr) : ((AC L).map (·.1)).Nodup := by
  rw [cellsFrom_names ct_9_2S.names (L + 1) 0 [] [] rfl]
  decide +kernel
theorem monoAttr {C : Addr} {n : Str} {PP : Led → Value → Prop} (h : Mono PP) : Mono (HasAttr C n PP) := by
  rintro Y Y' v hs ⟨x, dx, es, n, u, h0, h1, h2, h3, h4, h5⟩
  exact ⟨x, dx, es, n, u, h0, hs _ h1, hs _ h2, h3, h4, h _ _ _ hs h5⟩
section
variable {c : Cx} {fa : Addr} {cd : Value} {mean : ExcName → Option Value} {mg mb : Str → Option Value} {s0 s : Shared} {ρ : Str → Option Value} {Fx M P X : Led} {k : Int} {m : Str → Option Value} {cs R : Led}
theorem adc {x : Str} {v : Value} {b : Addr} (hx : (AE c fa cd).kindOf x = some .cell) (hd : (x == ("__debug__" : Str)) = false) (hc : (AC c.L).lookup x = some b) (C : CellsAre ρ (AC c.L) cs) (hv : ρ x = some v) : Rd c ((cs ++ X) ++ P) m (AE c fa cd) x v :=
  rd_cell rfl hx hd C hc (fun p hp => List.mem_append_left _ (List.mem_append_left _ hp)) hv
theorem adl {x : Str} {v : Value} (hx : (AE c fa cd).kindOf x = some .local) (hd : (x == ("__debug__" : Str)) = false) (hl : (AC c.L).lookup x = none) (hm : ∀ x, (AC c.L).lookup x = none → m x = ρ x) (hv : ρ x = some v) : Rd c R m (AE c fa cd) x v :=
  rd_local rfl hx hd ((hm x hl).trans hv)
theorem haldc {x : Str} (hx : (AE c fa cd).kindOf x = some .cell) (hc : ((AC c.L).lookup x).isSome = true) : Held c (Str.ofString "RangePartitionAssignor.assign") ct_9_2S fa cd (AC c.L) x := .inr ⟨hx, hc⟩
theorem haldl {x : Str} (hx : (AE c fa cd).kindOf x = some .local) (hc : (AC c.L).lookup x = none) : Held c (Str.ofString "RangePartitionAssignor.assign") ct_9_2S fa cd (AC c.L) x := .inl ⟨hx, hc⟩
noncomputable abbrev WA (c : Cx) (fa : Addr) (cd : Value) (l : List Stmt) (Q : Flow → Shared → Prop) (s : Shared) : Prop := wpAny (model PRG c.w) c.A (execs l (AE c fa cd)) Q (fun _ _ => False) s
abbrev A0 (clu : Addr) (vm : Value) : List (Str × Value) := [(Str.ofString "cls", .ref 178), (Str.ofString "cluster", .ref clu), (Str.ofString "members", vm)]
abbrev A1 (clu : Addr) (vm : Value) (d : Addr) : List (Str × Value) := (Str.ofString "consumers_per_topic", .ref d) :: A0 clu vm
/-- an owned list of rows -/
def RowsAt (P : Led) (o : Obj) (rows : List Row) : Prop := ∃ vs n, o = listOf (List.toArray vs) n ∧ DatAll P vs (rows.map rowD)
theorem RowsAt.mono {P P' : Led} {o : Obj} {rows : List Row} (h : RowsAt P o rows) (hs : ∀ p ∈ P, p ∈ P') : RowsAt P' o rows := by
  obtain ⟨vs, n, e, h⟩ := h
  exact ⟨vs, n, e, h.mono hs⟩
/-- who wants what -/
theorem asgA {clu : Addr} {vm : Value} {K : Led} {mems : List Mem} {tops : List Str} {Q : Flow → Shared → Prop} (D : Deep c mean mg mb) (S : LS c (AC c.L) s0 ρ [] K P k s) (hl : Hs ρ (A0 clu vm)) (hk : k ≤ 890) (hms : IsMems mems P vm)
    (htop : ∀ mm ∈ mems, ∀ t ∈ mm.topics, t ∈ tops) (ht5 : tops.length ≤ 5) (hr5 : ∀ t, (rowsOf mems t).length ≤ 5) (hm5 : mems.length ≤ 5)
    (next : ∀ d od qs ob ρ' k' s' P', Hs ρ' (A1 clu vm d) → k' ≤ k → (∀ p ∈ P, p ∈ P') → DOk c d od qs → (∀ t, t ∈ qs.map (·.1) ↔ rowsOf mems t ≠ []) → (∀ t ∈ qs.map (·.1), RowsAt P' (ob t) (rowsOf mems t)) → LS c (AC c.L) s0 ρ' [] (DM d od qs ob K) P' k' s' → WA c fa cd aw2 Q s') : WA c fa cd aw0 Q s := by
  delta aw0 sta0
  refine ls_own S rfl (ac_nodup _) (haldl rfl rfl) rfl (PO := fun b o => (b == sysModules) = false ∧ o.IsDictOf (SK c) []) (fun s m Z Q F N ret => ?_) fun d od s1 S1 hlo => ?_
  · exact newDict_K F N (topRead_of D.T).nolimit fun d h' o F' N' l lo a b e f => ret d o h' s.toks F' N' l ⟨lo, a⟩
  obtain ⟨hlo, hod⟩ := hlo
  have h1 := hl.add (x := Str.ofString "consumers_per_topic") (v := .ref d)
  delta aw1 sta1
  refine ls_forG (b := 0) (ι := Unit) (PN := fun _ => True) (len := fun _ => mems.length) (PI := fun _ i Y v => ∃ mm, mems[i]? = some mm ∧ MemAt Y v mm) S1 rfl (ac_nodup _) (haldl rfl rfl) (fun _ => rfl) (fun m cs C hm => em_mems D.hh (ev_name (adl rfl (by decide) rfl hm (h1 _ _ rfl)) (monoMems _) hms)) (by omega) fun _ V k1 _ hk1 => ?_
  refine ⟨fun i ρ' M' P' k' => Hs ρ' (A1 clu vm d) ∧ k' ≤ k ∧ ∃ od qs ob, M' = DM d od qs ob K ∧ DOk c d od qs ∧ (∀ t, t ∈ qs.map (·.1) ↔ rowsOf (mems.take i) t ≠ []) ∧ ∀ t ∈ qs.map (·.1), RowsAt P' (ob t) (rowsOf (mems.take i) t), ⟨h1, by omega, od, [], fun _ => od, rfl, ⟨hlo, hod, List.nodup_nil⟩, fun t => by simp [rowsOf], fun t ht => by cases ht⟩, ?_, ?_⟩
  · rintro i v o I ρ' M' P' k' s' hi ⟨mm, hmm, hv⟩ hsub ⟨hρ, hk', od, qs, ob, rfl, ok, hqs, hob⟩ S'
    have h2 := hρ.add (x := Str.ofString "member") (v := v)
    have hv' : MemAt P' v mm := hv.mono hsub
    have hmx : mm ∈ mems := List.mem_of_getElem? hmm
    refine ls_for (b := 0) (PN := fun ds => ds = mm.topics.map Dat.str) S' rfl (ac_nodup _) (haldl rfl rfl) (fun _ => rfl) (fun m cs C hm => ?_) (by omega) fun ds V2 k2 hds hk2 => ?_
    · refine ex_list D.hh ((ev_attr (C := 40) (at_ := none) D.toTops (ev_attr (C := 87) (at_ := none) D.toTops (ev_name (adl rfl (by decide) rfl hm (h2 _ _ rfl)) (monoAttr (monoAttr (monoD _))) (mem_topics hv')) (by kernel_rfl) (by kernel_rfl) (by kernel_rfl) (by kernel_rfl) rfl) (by kernel_rfl) (by kernel_rfl) (by kernel_rfl) (by kernel_rfl) rfl).imp fun Y v h => ⟨_, rfl, h⟩)
    subst hds
    refine ⟨fun j ρ2 M2 P2 k3 => Hs ρ2 ((Str.ofString "member", v) :: A1 clu vm d) ∧ k3 ≤ k ∧ ∃ od qs ob, M2 = DM d od qs ob K ∧ DOk c d od qs ∧ (∀ t, t ∈ qs.map (·.1) ↔ rowsOf (mems.take i) t ++ rowsIn (mm.topics.take j) mm t ≠ []) ∧ ∀ t ∈ qs.map (·.1), RowsAt P2 (ob t) (rowsOf (mems.take i) t ++ rowsIn (mm.topics.take j) mm t),
      ⟨h2, by omega, od, qs, ob, rfl, ok, fun t => by rw [List.take_zero, rowsIn_nil, List.append_nil]; exact hqs t, fun t ht => by rw [List.take_zero, rowsIn_nil, List.append_nil]; exact (hob t ht).mono fun p hp => List.mem_append_right _ hp⟩, ?_, ?_⟩
    · rintro j v2 o2 I2 ρ2 M2 P2 k3 s3 hj ⟨d2, hd2, hdv2⟩ hsub2 ⟨hρ2, hk3, od2, qs2, ob2, rfl, ok2, hqs2, hob2⟩ S3
      rw [List.getElem?_map] at hd2
      obtain ⟨t0, ht0, rfl⟩ := Option.map_eq_some_iff.mp hd2
      obtain ⟨tt, rfl⟩ := dstr hdv2
      have h3 := hρ2.add (x := Str.ofString "topic") (v := .str t0 tt)
      have hv2 : MemAt P2 v mm := hv'.mono fun p hp => hsub2 p (List.mem_append_right _ hp)
      have hlen : ∀ t, (rowsOf (mems.take i) t ++ rowsIn (mm.topics.take j) mm t).length ≤ 5 := fun t => Nat.le_trans (rows_le hmm t) (hr5 t)
      have hq5 : qs2.length ≤ 5 := by
        rw [← List.length_map (f := (·.1))]
        refine Nat.le_trans (nodup_len (s := tops) ok2.nd fun y hy => ?_) ht5
        have hne := (hqs2 y).mp hy
        have : rowsOf (mems.take (i + 1)) y ≠ [] := by
          rw [rowsOf_step hmm]
          intro e
          have e2 := List.append_eq_nil_iff.mp e
          have l := rowsIn_le mm.topics j mm y
          rw [e2.2] at l
          exact hne (by rw [e2.1, List.length_eq_zero_iff.mp (Nat.le_zero.mp l)]; rfl)
        obtain ⟨mm', hmm', ht'⟩ := rowsOf_top this
        exact htop mm' (List.mem_of_mem_take hmm') _ ht'
      have hst : ∀ t, rowsOf (mems.take i) t ++ rowsIn (mm.topics.take (j + 1)) mm t = (rowsOf (mems.take i) t ++ rowsIn (mm.topics.take j) mm t) ++ (if t0 = t then [(mm.own, mm.name)] else []) := fun t => by rw [rowsIn_step ht0, List.append_assoc]
      refine ls_sdapp (t := t0) (PP := IsD (rowD (mm.own, mm.name))) S3 ok2 (fun x hx => ?_) (by omega) (by omega) (fun m cs C hm => ev_nameV (adl rfl (by decide) rfl hm (h3 _ _ rfl))) (fun m cs C hm => ev_nameD (adl rfl (by decide) rfl hm (h3 _ _ rfl)) (.str _ _)) (fun M' m cs C hm => ?_) rfl rfl rfl rfl rfl rfl rfl fun qs3 od3 ob3 v3 V3 k4 s4 hk4 S4 ok3 hcase hoth hv3 => ?_
      · obtain ⟨vs, n, e, hd⟩ := hob2 x hx
        exact ⟨vs, n, e, by rw [hd.length, List.length_map]; have := hlen x; omega⟩
      · have r1 : ∀ R, Rd c R m (AE c fa cd) (Str.ofString "member") v := fun R => adl rfl (by decide) rfl hm (h3 _ _ rfl)
        exact ev_tuple2 (b1 := 0) (b2 := 0) (ev_attr (C := 87) (at_ := none) D.toTops (ev_name (r1 _) (monoAttr (monoD _)) (mem_own hv2)) (by kernel_rfl) (by kernel_rfl) (by kernel_rfl) (by kernel_rfl) rfl) (ev_attr (C := 87) (at_ := none) D.toTops (ev_name (r1 _) (monoAttr (monoD _)) (mem_name hv2)) (by kernel_rfl) (by kernel_rfl) (by kernel_rfl) (by kernel_rfl) rfl) rfl rfl
      · refine wpAny_execs_nil ⟨rfl, _, _, _, _, S4, fun p hp => List.mem_append_right _ hp, h3.drop rfl, by omega, od3, qs3, ob3, rfl, ok3, fun t => ?_, fun t ht => ?_⟩
        · rw [hst]
          rcases hcase with ⟨hin, rfl, _⟩ | ⟨hnin, hq3, _⟩
          · rw [hqs2]
            by_cases e : t0 = t
            · subst e
              rw [if_pos rfl]
              exact ⟨fun h h' => h (List.append_eq_nil_iff.mp h').1, fun _ => (hqs2 _).mp hin⟩
            · rw [if_neg e, List.append_nil]
          · rw [hq3, List.mem_append, List.mem_singleton, hqs2]
            by_cases e : t0 = t
            · subst e
              rw [if_pos rfl]
              exact ⟨fun _ h' => by simp at h', fun _ => .inr rfl⟩
            · rw [if_neg e, List.append_nil]
              exact ⟨fun h => h.resolve_right (Ne.symm e), .inl⟩
        · rw [hst]
          by_cases e : t0 = t
          · subst e
            rw [if_pos rfl]
            rcases hcase with ⟨hin, rfl, hap⟩ | ⟨hnin, hq3, hap⟩
            · obtain ⟨vs, n, e2, hd⟩ := hob2 _ hin
              refine ⟨vs ++ [v3], n + 1, hap vs n e2, ?_⟩
              rw [List.map_append]
              exact (hd.mono fun p hp => List.mem_append_right _ hp).append (.cons hv3 .nil)
            · have e2 : rowsOf (mems.take i) t0 ++ rowsIn (mm.topics.take j) mm t0 = [] := by
                apply Classical.byContradiction
                exact fun h => hnin ((hqs2 t0).mpr h)
              rw [e2]
              exact ⟨[v3], 1, hap, .cons hv3 .nil⟩
          · rw [if_neg e, List.append_nil, hoth t (Ne.symm e)]
            refine (hob2 t ?_).mono fun p hp => List.mem_append_right _ hp
            rcases hcase with ⟨_, rfl, _⟩ | ⟨_, hq3, _⟩
            · exact ht
            · rw [hq3, List.mem_append, List.mem_singleton] at ht
              exact ht.resolve_right (Ne.symm e)
    · rintro ρ2 M2 P2 k3 s3 hsub2 ⟨hρ2, hk3, od2, qs2, ob2, rfl, ok2, hqs2, hob2⟩ S3
      rw [List.length_map, List.take_length] at hqs2 hob2
      exact wpAny_execs_nil ⟨rfl, _, _, _, _, S3, fun p hp => hsub2 p (List.mem_append_right _ hp), hρ2.drop rfl, hk3, od2, qs2, ob2, rfl, ok2, fun t => by rw [rowsOf_step hmm]; exact hqs2 t, fun t ht => by rw [rowsOf_step hmm]; exact hob2 t ht⟩
  · rintro ρ' M' P' k' s' hsub ⟨hρ, hk', od, qs, ob, rfl, ok, hqs, hob⟩ S'
    rw [List.take_length] at hqs hob
    exact next d od qs ob ρ' k' s' P' hρ hk' (fun p hp => hsub p (List.mem_append_right _ hp)) ok hqs hob S'
end

end
section
section
variable {c : Cx} {R Y : Led} {m : Str → Option Value} {env : Env} {mean : ExcName → Option Value} {mg mb : Str → Option Value}
theorem ev_bool {b : Bool} {kn : Nat} {pos : Pos} : Ev c R Y m 0 (eval (.Constant (.bool b) kn pos) env) (fun _ v => v = .bool b) := by
  intro s Z U k Q _ _ _ S _ ret
  exact wpAny_Constant_bool (ret _ [] k s.heap s.toks (by omega) S.self Fresh.nil rfl)
theorem ev_addL {l r : Expr} {pos : Pos} {b1 b2 : Nat} {ds es : List Dat} (hz : ds.length + es.length ≤ 100) (h1 : Ev c R Y m b1 (eval l env) (IsD (.list ds))) (h2 : Ev c R Y m b2 (eval r env) (IsD (.list es))) :
    Ev c R Y m (b1 + b2) (eval (.BinOp l .Add r pos) env) (IsD (.list (ds ++ es))) :=
  ev_bin h1 h2 fun v u Y' _ hv hu => by
    obtain ⟨a, vs, n, rfl, hm, hall⟩ := dlist hv
    obtain ⟨b, ws, n', rfl, hm', hall'⟩ := dlist hu
    intro s Z U k Q _ hY hU S _ ret
    obtain ⟨hd, hh, N⟩ := S.hd
    exact jadd_lists S.F N (List.mem_cons_of_mem _ (hU _ (hY _ hm))) (List.mem_cons_of_mem _ (hU _ (hY _ hm'))) (by rw [hall.length, hall'.length]; exact hz) fun D h' F' N' l => Ev.made (P := IsD (.list (ds ++ es))) (tk' := s.toks) S hh F' N' l (DatIn.list List.mem_cons_self ((hall.append hall').mono fun p hp => List.mem_cons_of_mem _ (hY p hp))) ret
/-- list(d) of a dict that may be an owned one -/
theorem ec_listR {d : Addr} {od : Obj} {kvs : List (Str × Value)} (hh : c.A.handled = none) (hm : (d, od) ∈ R) (hod : od.IsDictOf (SK c) kvs) (lo : (d == sysModules) = false) (h5 : kvs.length ≤ 5) : Ev c R Y m 0 (call (.type "list") [.ref d]) (IsD (.list ((kvs.map (·.1)).map Dat.str))) := by
  intro s Z U k Q hR _ _ S _ ret
  obtain ⟨hd, hh', N⟩ := S.hd
  exact j_listD (R0 := []) hh S.F N (List.mem_cons_of_mem _ (hR _ hm)) hod lo h5 fun D cc h' tk' vs' F' N' l d' _ => Ev.made (P := IsD _) S hh' F' N' l (DatIn.list List.mem_cons_self (d'.mono fun p hp => absurd hp List.not_mem_nil)) ret
/-- d[x] of such a dict -/
theorem ev_ditemR {e i : Expr} {pos : Pos} {d : Addr} {od : Obj} {kvs : List (Str × Value)} {C : Led → Value → Prop} {x : Str} (hm : (d, od) ∈ R) (hod : od.IsDictOf (SK c) kvs) (hC : Mono C) (hv : ∀ u, valueAt kvs x = some u → C Y u) (hx : x ∈ kvs.map (·.1))
    (h1 : Ev c R Y m 0 (eval e env) (fun _ v => v = .ref d)) (h2 : Ev c R Y m 0 (eval i env) (IsD (.str x)))
    (hs : ∀ o v, subscripted i false o v = operate [o, v] (getItem o v)) : Ev c R Y m 0 (eval (.Subscript e i pos) env) C := by
  intro s Z U k Q hR hY hU S hk ret
  refine Subscript_ ?_
  refine h1 s Z U k _ hR hY hU S (by omega) fun v V k1 hp1 tk1 hk1 S1 f1 p1 => ?_
  subst p1
  refine h2 _ (V ++ Z) (V ++ U) k1 _ (fun p hp => List.mem_append_right _ (hR p hp)) (fun p hp => List.mem_append_right _ (hY p hp)) (fun p hp => (List.mem_append.mp hp).elim (List.mem_append_left _) fun h => List.mem_append_right _ (hU p h)) S1 (by omega) fun u V2 k2 hp2 tk2 hk2 S2 f2 p2 => ?_
  obtain ⟨tj, rfl⟩ := dstr p2
  have hm' : _ ∈ V2 ++ (V ++ Z) := List.mem_append_right _ (List.mem_append_right _ (hR _ hm))
  obtain ⟨y, hy⟩ := valueAt_mem hx
  have hD := kda_dict S2.news hm' hod
  refine tail_any hD.typeIs slot_dict_getitem.lookup (wpAny_getItem_of (knd := SK c) (strKind_is _ _ _ _) hD.mapOf hy ?_) (hs _ _)
  refine ret y (V2 ++ V) k2 hp2 _ (by omega) ?_ (f1.app f2) ?_
  · rw [List.append_assoc]; exact S2.toks
  · exact hC _ _ _ (fun p hp => List.mem_append_right _ (hY p hp)) (hv y hy)
/-- what grouped_by_kind hands back -/
inductive IsGrpW (w : World) (A B : List Row) (Y : Led) (v : Value) : Prop
  | mk (g og kvs)
    (x0 : v = .ref g)
    (x1 : (g, og) ∈ Y)
    (x2 : (g == sysModules) = false)
    (x3 : og.IsDictOf (boolKind PRG w) kvs)
    (x4 : ∀ b : Bool, (valueAt kvs b = none ∧ (if b = true then A else B) = []) ∨ ∃ u, valueAt kvs b = some u ∧ DatIn Y u (.list ((if b = true then A else B).map rowD))) : IsGrpW w A B Y v
abbrev IsGrp (c : Cx) := IsGrpW c.w
theorem monoGrp (A B : List Row) : Mono (IsGrp c A B) := by
  rintro Y Y' v hs ⟨g, og, kvs, e, h1, h2, h3, h4⟩
  exact ⟨g, og, kvs, e, hs _ h1, h2, h3, fun b => (h4 b).imp id fun ⟨u, a, b⟩ => ⟨u, a, b.mono hs⟩⟩
theorem kind_ofR {Y : Led} {rows : List Row} {b : Bool} (hr : ∀ r ∈ rows, if b = true then ∃ g, r.1 = some g else r.1 = none) : ∀ {vs : List Value}, DatAll Y vs (rows.map rowD) → ∀ v ∈ vs, KindAt Y b v := by
  induction rows with
  | nil => intro vs h; cases h; exact fun v hv => by cases hv
  | cons r rows ih =>
    intro vs h
    cases h with
    | cons h1 h2 =>
      intro v hv
      rcases List.mem_cons.mp hv with rfl | hv
      · obtain ⟨t, us, n, rfl, hm, hall⟩ := dtup h1
        cases hall with
        | cons k1 k2 =>
        cases k2 with
        | cons k2 k3 =>
        cases k3
        refine ⟨t, _, _, n, rfl, hm, ?_⟩
        have := hr r List.mem_cons_self
        cases b with
        | true =>
          simp only [if_true] at this ⊢
          obtain ⟨g, e⟩ := this
          rw [e] at k1
          obtain ⟨tk, e2⟩ := dstr k1
          exact ⟨g, tk, e2⟩
        | false =>
          simp only [Bool.false_eq_true, if_false] at this ⊢
          rw [this] at k1
          cases k1; rfl
      · exact ih (fun x hx => hr x (List.mem_cons_of_mem _ hx)) h2 v hv
theorem ec_group {A B : List Row} {v : Value} (D : Deep c mean mg mb) (hv : DatIn Y v (.list ((A ++ B).map rowD))) (hA : ∀ r ∈ A, ∃ g, r.1 = some g) (hB : ∀ r ∈ B, r.1 = none) (h60 : (A ++ B).length ≤ 60) : Ev c R Y m 0 (call (.ref 133) [v]) (IsGrp c A B) := by
  intro s Z U k Q _ hY hU S hb ret
  obtain ⟨rl, vs, nr, rfl, hm, hall⟩ := dlist hv
  rw [List.map_append] at hall
  obtain ⟨v1, v2, rfl, a1, a2⟩ := datAll_app hall
  obtain ⟨dp, un, gd, cn, cs, a, ccd, cl, outer, A₀, base, e, Be, hk, hd, hu⟩ := D.deep
  obtain ⟨hd0, hh, N⟩ := S.hd
  have hN : ∀ p ∈ Y, p ∈ hd0 :: Z := fun p hp => List.mem_cons_of_mem _ (hU _ (hY _ hp))
  rw [e]
  refine group_spec Be S.F D.X N D.T hk (hN _ hm) (fun v hv => ?_) (fun v hv => ?_) (by rw [List.length_append, a1.length, a2.length, List.length_map, List.length_map, ← List.length_append]; exact h60) (by omega) (by omega) fun g nx last h' tk' F' N' hst => ?_
  · obtain ⟨t, x, y, n, e, h1, h2⟩ := kind_ofR (b := true) (fun r hr => by rw [if_pos rfl]; exact hA r hr) a1 v hv
    exact ⟨t, x, y, n, e, hN _ h1, h2⟩
  · obtain ⟨t, x, y, n, e, h1, h2⟩ := kind_ofR (b := false) (fun r hr => by rw [if_neg (by decide)]; exact hB r hr) a2 v hv
    exact ⟨t, x, y, n, e, hN _ h1, h2⟩
  have nilA : v1 = [] → A = [] := fun h => by
    subst h; cases A with
    | nil => rfl
    | cons _ _ => cases a1
  have nilB : v2 = [] → B = [] := fun h => by
    subst h; cases B with
    | nil => rfl
    | cons _ _ => cases a2
  obtain ⟨t, n, ehd⟩ := hh
  subst ehd
  have fin : ∀ (V : Led) (og : Obj) (kvs : List (Bool × Value)), nx = V ++ (c.hand, listOf #[.ref c.sc, .int k t] n) :: Z → (g, og) ∈ V → (g == sysModules) = false → og.IsDictOf (boolKind PRG c.w) kvs → (∀ p ∈ V, ∀ q ∈ (c.hand, listOf #[.ref c.sc, .int k t] n) :: Z, q.1 ≠ p.1) →
      (∀ b : Bool, (valueAt kvs b = none ∧ (if b = true then A else B) = []) ∨ ∃ u, valueAt kvs b = some u ∧ DatIn (V ++ U) u (.list ((if b = true then A else B).map rowD))) → Q (.ref g) { s with heap := h', toks := tk' } := by
    intro V og kvs e h1 h2 h3 h4 h5
    subst e
    refine ret (.ref g) V k h' tk' (by omega) ⟨F', ⟨⟨t, n, jsub N' fun p hp => ?_⟩, fun p hp => ?_⟩, S.k0⟩ (fun p hp q hq => h4 p hp q (List.mem_cons_of_mem _ hq)) ⟨g, og, kvs, rfl, List.mem_append_left _ h1, h2, h3, h5⟩
    · rcases List.mem_cons.mp hp with h | h
      · exact List.mem_append_right _ (h ▸ List.mem_cons_self)
      · rcases List.mem_append.mp h with h | h
        · exact List.mem_append_left _ h
        · exact List.mem_append_right _ (List.mem_cons_of_mem _ h)
    · rcases List.mem_append.mp hp with h | h
      · exact (h4 p h _ List.mem_cons_self).symm
      · exact S.N.2 p h
  have up : ∀ {V : Led}, ∀ p ∈ Y, p ∈ V ++ U := fun p hp => List.mem_append_right _ (hY p hp)
  obtain ⟨og, hlo, hst⟩ := hst
  rcases hst with ⟨e1, e2, _, enx, hd', og1⟩ | ⟨_, e2, _, l1, n1, enx, hd', og1, ol1, lt1⟩ | ⟨e1, _, _, l2, n2, enx, hd', og1, ol2, lt2⟩ | ⟨_, _, _, l1, n1, l2, n2, enx, hd', og1, ol1, ol2, lt1, lt2⟩
  · refine fin [(g, og)] og [] enx List.mem_cons_self hlo hd' (fun p hp q hq => by rw [List.mem_singleton.mp hp]; exact og1 q hq) fun b => .inl ⟨rfl, ?_⟩
    cases b
    · exact nilB e2
    · exact nilA e1
  · refine fin [(l1, listOf (List.toArray v1) n1), (g, og)] og _ enx (List.mem_cons_of_mem _ List.mem_cons_self) hlo hd' (fun p hp q hq => ?_) fun b => ?_
    · rcases List.mem_cons.mp hp with rfl | hp
      · exact ol1 q hq
      · rw [List.mem_singleton.mp hp]; exact og1 q hq
    · cases b
      · exact .inl ⟨rfl, nilB e2⟩
      · exact .inr ⟨_, rfl, DatIn.list List.mem_cons_self (a1.mono up)⟩
  · refine fin [(l2, listOf (List.toArray v2) n2), (g, og)] og _ enx (List.mem_cons_of_mem _ List.mem_cons_self) hlo hd' (fun p hp q hq => ?_) fun b => ?_
    · rcases List.mem_cons.mp hp with rfl | hp
      · exact ol2 q hq
      · rw [List.mem_singleton.mp hp]; exact og1 q hq
    · cases b
      · exact .inr ⟨_, rfl, DatIn.list List.mem_cons_self (a2.mono up)⟩
      · exact .inl ⟨rfl, nilA e1⟩
  · refine fin [(l2, listOf (List.toArray v2) n2), (l1, listOf (List.toArray v1) n1), (g, og)] og _ enx (List.mem_cons_of_mem _ (List.mem_cons_of_mem _ List.mem_cons_self)) hlo hd' (fun p hp q hq => ?_) fun b => ?_
    · rcases List.mem_cons.mp hp with rfl | hp
      · exact ol2 q hq
      · rcases List.mem_cons.mp hp with rfl | hp
        · exact ol1 q hq
        · rw [List.mem_singleton.mp hp]; exact og1 q hq
    · cases b
      · exact .inr ⟨_, rfl, DatIn.list List.mem_cons_self (a2.mono up)⟩
      · exact .inr ⟨_, rfl, DatIn.list (List.mem_cons_of_mem _ List.mem_cons_self) (a1.mono up)⟩
/-- grouped.get(b, []) -/
theorem ev_bget {o : Expr} {ap cp kp lp : Pos} {kn : Nat} {b : Bool} {A B : List Row} {pl : Sem Bool} (ho : Ev c R Y m 0 (eval o env) (IsGrp c A B))
    (hc : eval (.Call (.Attribute o (Str.ofString "get") ap) [.Constant (.bool b) kn kp, .List [] lp] [] cp) env = (do
      let ov ← eval o env
      standAt ap.atName
      let (f, first) ← holding [ov] (getMethod ov (Str.ofString "get") pl)
      callWith cp f first (backTo cp (starEach [.Constant (.bool b) kn kp, .List [] lp] env)) []))
    (hs : starEach [.Constant (.bool b) kn kp, .List [] lp] env = (false, eval (.Constant (.bool b) kn kp) env) :: starEach [.List [] lp] env) (hs2 : starEach [.List [] lp] env = (false, eval (.List [] lp) env) :: starEach [] env) :
    Ev c R Y m 0 (eval (.Call (.Attribute o (Str.ofString "get") ap) [.Constant (.bool b) kn kp, .List [] lp] [] cp) env) (IsD (.list ((if b = true then A else B).map rowD))) := by
  intro s Z U k Q hR hY hU S hk ret
  refine MethodCall_ ?_ hc
  refine ho s Z U k _ hR hY hU S hk fun v V k1 hp1 tk1 hk1 S1 f1 p1 => ?_
  obtain ⟨g, og, kvs, rfl, hm, hlo, hod, hb⟩ := p1
  have up : ∀ p ∈ V ++ U, p ∈ V ++ Z := fun p hp => (List.mem_append.mp hp).elim (List.mem_append_left _) fun h => List.mem_append_right _ (hU p h)
  refine kdg_method (knd := boolKind PRG c.w) S1.news (up _ hm) hod ?_
  refine callWith_method1 (first := [.ref g]) ?_ hs rfl
  refine wpAny_items_cons (wpAny_Constant_bool (wpAny_items_cons ?_ hs2)) hs
  refine (ev_list0D (c := c) (R := V ++ Z) (Y := V ++ U) (m := m)) _ (V ++ Z) (V ++ U) k1 _ (fun _ h => h) (fun _ h => h) up S1 (by omega) fun u V2 k2 hp2 tk2 hk2 S2 f2 p2 => ?_
  refine wpAny_items_nil ?_
  show wpAny _ _ (call (.builtin "dict.get") [.ref g, .bool b, u]) _ _ _
  refine kdg_get2 (knd := boolKind PRG c.w) S2.news (List.mem_append_right _ (up _ hm)) hod hlo (boolKind_is _ _ _) _ rfl ?_
  refine ret _ (V2 ++ V) k2 hp2 _ (by omega) (by rw [List.append_assoc]; exact S2.toks) (f1.app f2) ?_
  rw [List.append_assoc]
  rcases hb b with ⟨h1, h2⟩ | ⟨w, h1, h2⟩
  · rw [h1, h2]; exact p2
  · rw [h1]; exact h2.mono fun p hp => List.mem_append_right _ hp
/-- sorted(e, key=member_of) -/
theorem ev_sortK {x km : Str} {p p2 kp pos : Pos} {e : Expr} {rows : List Row} (D : Deep c mean mg mb) (r : Rd c R m env x (.builtin "sorted")) (rk : Rd c R m env km (.ref 140)) (he : Ev c R Y m 0 (eval e env) (IsD (.list (rows.map rowD)))) (h5 : rows.length ≤ 5)
    (hc : eval (.Call (.Name x p) [e] [⟨some (Str.ofString "key"), .Name km p2, kp⟩] pos) env = (eval (.Name x p) env >>= fun f => callWith pos f [] (backTo pos (starEach [e] env)) (backToKw pos (keywordEach [⟨some (Str.ofString "key"), .Name km p2, kp⟩] env))))
    (hs : starEach [e] env = (false, eval e env) :: starEach [] env) (hk1 : (backToKw pos (keywordEach [⟨some (Str.ofString "key"), .Name km p2, kp⟩] env)).all (·.1.isSome) = true) (hk2 : (backToKw pos (keywordEach [⟨some (Str.ofString "key"), .Name km p2, kp⟩] env)).any (·.1.isNone) = false)
    (hk3 : (backToKw pos (keywordEach [⟨some (Str.ofString "key"), .Name km p2, kp⟩] env)).filterMap (·.1) = [Str.ofString "key"]) :
    Ev c R Y m 0 (eval (.Call (.Name x p) [e] [⟨some (Str.ofString "key"), .Name km p2, kp⟩] pos) env) (IsD (.list ((jsrt (fun a b => ltS a.2 b.2) rows).map rowD))) := by
  intro s Z U k Q hR hY hU S hk ret
  rw [hc]
  refine wpAny_bind ?_
  refine r s Z k _ p hR S ?_
  have hbt : backTo pos (starEach [e] env) = (false, eval e env) :: backTo pos (starEach [] env) := by rw [hs]; rfl
  refine callWith_kw ?_ hbt (by rw [hbt]; rfl) hk1 hk2
  refine wpAny_items_cons ?_ hs
  refine he s Z U k _ hR hY hU S hk fun v V k1 hp1 tk1 hk1' S1 f1 p1 => ?_
  refine wpAny_items_nil ?_
  obtain ⟨l, vs, nl, rfl, hl, hall⟩ := dlist p1
  refine kws_cons ?_
  refine rk _ (V ++ Z) k1 _ p2 (fun q hq => List.mem_append_right _ (hR q hq)) S1 ?_
  refine kws_nil ?_
  rw [hk3]
  show wpAny _ _ (call (.builtin "sorted") [.ref l] [(Str.ofString "key", .ref 140)]) _ _ _
  have up : ∀ p ∈ V ++ U, p ∈ V ++ Z := fun p hp => (List.mem_append.mp hp).elim (List.mem_append_left _) fun h => List.mem_append_right _ (hU p h)
  obtain ⟨dp, un, gd, cn, cs, a, ccd, cl, outer, A₀, base, eA, Be, hkk, hd, hu⟩ := D.deep
  obtain ⟨hd0, hh, N⟩ := S1.hd
  rw [eA]
  refine j_sortK Be S1.F D.X N D.T hkk (List.mem_cons_of_mem _ (up _ hl)) hall (fun p hp => List.mem_cons_of_mem _ (up _ hp)) h5 (by omega) (by omega) fun DD vs' cc h' tk' F' N' lD dD _ => ?_
  refine Ev.made (P := IsD (.list ((jsrt (fun a b => ltS a.2 b.2) rows).map rowD))) (U := V ++ U) (b := 0) S1 hh F' N' lD (DatIn.list List.mem_cons_self (dD.mono fun p hp => List.mem_cons_of_mem _ hp)) fun v V2 k2 h2 tk2 hk2 S2 f2 p2 => ?_
  refine ret v (V2 ++ V) k2 h2 tk2 (by omega) (by rw [List.append_assoc]; exact S2) (f1.app f2) (by rw [List.append_assoc]; exact p2)
end

end
section
theorem valueAt_map {t x : Str} {v : Value} : ∀ {kvs : List (Str × Value)}, valueAt (kvs.map fun p => if p.1 = t then (p.1, v) else p) x = if x = t then (valueAt kvs x).map (fun _ => v) else valueAt kvs x
  | [] => by simp [valueAt]
  | p :: kvs => by
    have ih := valueAt_map (t := t) (x := x) (v := v) (kvs := kvs)
    unfold valueAt at ih ⊢
    rw [List.map_cons, List.find?_cons, List.find?_cons]
    by_cases e1 : p.1 = t
    · rw [if_pos e1]
      by_cases e2 : p.1 = x
      · have e3 : x = t := e2 ▸ e1
        simp [e2, e3]
      · have h : decide (p.1 = x) = false := decide_eq_false e2
        simp only [h]
        exact ih
    · rw [if_neg e1]
      by_cases e2 : p.1 = x
      · have e3 : ¬ x = t := fun h => e1 (e2.trans h)
        simp [e2, e3]
      · have h : decide (p.1 = x) = false := decide_eq_false e2
        simp only [h]
        exact ih
theorem stored_in {kvs : List (Str × Value)} {t : Str} {v : Value} (h : t ∈ kvs.map (·.1)) : (stored kvs t v).map (·.1) = kvs.map (·.1) ∧ ∀ x u, valueAt (stored kvs t v) x = some u → (x = t ∧ u = v) ∨ (x ≠ t ∧ valueAt kvs x = some u) := by
  have e : stored kvs t v = kvs.map fun p => if p.1 = t then (p.1, v) else p := by
    unfold stored
    obtain ⟨p, hp, rfl⟩ := List.mem_map.mp h
    exact if_pos (List.any_eq_true.mpr ⟨p, hp, by simp⟩)
  rw [e]
  refine ⟨?_, fun x u hu => ?_⟩
  · rw [List.map_map]
    refine List.map_congr_left fun p _ => ?_
    show (if p.1 = t then (p.1, v) else p).1 = p.1
    split <;> rfl
  · rw [valueAt_map] at hu
    by_cases e1 : x = t
    · rw [if_pos e1] at hu
      obtain ⟨_, _, rfl⟩ := Option.map_eq_some_iff.mp hu
      exact .inl ⟨e1, rfl⟩
    · rw [if_neg e1] at hu
      exact .inr ⟨e1, hu⟩
section
variable {c : Cx} {cn : Str} {sc : Scope} {a : Addr} {ccd : Value} {cl : List (Str × Addr)} {fa : Addr} {cd : Value} {mean : ExcName → Option Value} {mg mb : Str → Option Value} {s0 s : Shared} {ρ : Str → Option Value} {Fx M P : Led} {k : Int}
theorem LS.freezeL {A : Led} : ∀ {P : Led}, LS c cl s0 ρ Fx (A ++ M) P k s → ∃ P2, (∀ p ∈ P, p ∈ P2) ∧ (∀ p ∈ A, p ∈ P2) ∧ LS c cl s0 ρ Fx M P2 k s := by
  induction A with
  | nil => exact fun {P} S => ⟨P, fun _ h => h, fun _ h => absurd h List.not_mem_nil, S⟩
  | cons p A ih =>
    intro P S
    obtain ⟨P2, h1, h2, S2⟩ := ih (LS.freeze (pre := []) (post := A ++ M) (b := p.1) (o := p.2) S)
    refine ⟨P2, fun q hq => h1 q (List.mem_cons_of_mem _ hq), fun q hq => ?_, S2⟩
    rcases List.mem_cons.mp hq with rfl | hq
    · exact h1 _ List.mem_cons_self
    · exact h2 q hq
theorem LS.freezeDM {d : Addr} {od : Obj} {qs : List (Str × Addr)} {ob : Str → Obj} {K : Led} (S : LS c cl s0 ρ Fx (DM d od qs ob K) P k s) : ∃ P2, (∀ p ∈ P, p ∈ P2) ∧ (∀ q ∈ qs, (q.2, ob q.1) ∈ P2) ∧ LS c cl s0 ρ Fx ((d, od) :: K) P2 k s := by
  obtain ⟨P2, h1, h2, S2⟩ := LS.freezeL (S.perm (M' := qs.map (oWN ob) ++ (d, od) :: K) List.perm_middle.symm)
  exact ⟨P2, h1, fun q hq => h2 _ (List.mem_map.mpr ⟨q, hq, rfl⟩), S2⟩
abbrev A2 (clu : Addr) (vm : Value) (d asn : Addr) : List (Str × Value) := (Str.ofString "assignment", .ref asn) :: A1 clu vm d
theorem rows_stat {A : List Row} (h : ∀ r ∈ A, ∃ g, r.1 = some g) : A.map rowD = (A.map unst).map rowT := by
  conv => lhs; rw [← unst_stat h]
  rw [List.map_map]
  rfl
/-- each topic's consumers in their order -/
theorem asgB {clu d : Addr} {vm : Value} {od : Obj} {qs : List (Str × Addr)} {ob : Str → Obj} {K : Led} {mems ms1 ms2 : List Mem} {tops : List Str} {Q : Flow → Shared → Prop} (D : Deep c mean mg mb) (S : LS c (AC c.L) s0 ρ [] (DM d od qs ob K) P k s) (hl : Hs ρ (A1 clu vm d)) (hk : k ≤ 890) (ok : DOk c d od qs)
    (hqs : ∀ t, t ∈ qs.map (·.1) ↔ rowsOf mems t ≠ []) (hob : ∀ t ∈ qs.map (·.1), RowsAt P (ob t) (rowsOf mems t)) (hso : mems = ms1 ++ ms2) (h1s : ∀ mm ∈ ms1, ∃ g, mm.own = some g) (h2s : ∀ mm ∈ ms2, mm.own = none) (htop : ∀ mm ∈ mems, ∀ t ∈ mm.topics, t ∈ tops) (ht5 : tops.length ≤ 5) (hr5 : ∀ t, (rowsOf mems t).length ≤ 5)
    (next : ∀ asn oa od' kvs ρ' k' s' P', Hs ρ' (A2 clu vm d asn) → k' ≤ k → (∀ p ∈ P, p ∈ P') → (asn == sysModules) = false → oa.IsDictOf (SK c) [] → od'.IsDictOf (SK c) kvs → kvs.map (·.1) = qs.map (·.1) → (∀ t u, valueAt kvs t = some u → DatIn P' u (.list ((ordT ms1 ms2 t).map rowD))) → LS c (AC c.L) s0 ρ' [] ((asn, oa) :: (d, od') :: K) P' k' s' → WA c fa cd aw4 Q s') : WA c fa cd aw2 Q s := by
  obtain ⟨P1, up1, hown, S1⟩ := S.freezeDM
  have hq5 : qs.length ≤ 5 := by
    rw [← List.length_map (f := (·.1))]
    refine Nat.le_trans (nodup_len (s := tops) ok.nd fun y hy => ?_) ht5
    have hne := (hqs y).mp hy
    rw [← List.take_length (l := mems)] at hne
    obtain ⟨mm', hmm', ht'⟩ := rowsOf_top hne
    exact htop mm' (List.mem_of_mem_take hmm') _ ht'
  have hv0 : ∀ t u, valueAt (qs.map pKV) t = some u → DatIn P1 u (.list ((rowsOf mems t).map rowD)) := fun t u hu => by
    obtain ⟨b, hb, rfl⟩ := pKV_at hu
    obtain ⟨vs, n, e, hd⟩ := hob t (List.mem_map.mpr ⟨_, hb, rfl⟩)
    exact DatIn.list (e ▸ hown (t, b) hb) (hd.mono up1)
  obtain ⟨keys, hkeys⟩ : ∃ keys, keys = qs.map (·.1) := ⟨_, rfl⟩
  have hknd : keys.Nodup := hkeys ▸ ok.nd
  have hk5 : keys.length ≤ 5 := by rw [hkeys, List.length_map]; exact hq5
  rw [← hkeys] at next
  delta aw2 sta2
  refine ls_own S1 rfl (ac_nodup _) (haldl rfl rfl) rfl (PO := fun b o => (b == sysModules) = false ∧ o.IsDictOf (SK c) []) (fun s m Z Q F N ret => ?_) fun asn oa s2 S2 hlo => ?_
  · exact newDict_K F N (topRead_of D.T).nolimit fun d h' o F' N' l lo a b e f => ret d o h' s.toks F' N' l ⟨lo, a⟩
  obtain ⟨hlo, hoa⟩ := hlo
  have h2 := hl.add (x := Str.ofString "assignment") (v := .ref asn)
  delta aw3 sta3
  refine ls_for (b := 0) (PN := fun ds => ds = keys.map Dat.str) S2 rfl (ac_nodup _) (haldl rfl rfl) (fun _ => rfl) (fun m cs C hm => ?_) (by omega) fun ds V k2 hds hk2 => ?_
  · refine ex_list D.hh ((ev_callT (b1 := 0) (b2 := 0) (rd_built D.toTops (by kernel_rfl) (by boot_fast) (by decide) rfl rfl (by decide)) (ea1 (P1 := fun _ v => v = .ref d) (fun _ _ _ _ h => h) (ev_nameV (adl rfl (by decide) rfl hm (h2 _ _ rfl))) rfl) (fun vs Y' hs pv => ?_) rfl rfl).imp fun Y v h => ⟨_, rfl, h⟩)
    obtain ⟨v, rfl, rfl⟩ := pv
    have := ec_listR (c := c) (R := (cs ++ ([] ++ (asn, oa) :: (d, od) :: K)) ++ P1) (Y := Y') (m := m) D.hh (List.mem_append_left _ (List.mem_append_right _ (List.mem_cons_of_mem _ List.mem_cons_self))) ok.od ok.lo (by rw [List.length_map]; exact hq5)
    rw [pKV_names, ← hkeys] at this
    exact this
  subst hds
  refine ⟨fun i ρ' M' P' k' => Hs ρ' (A2 clu vm d asn) ∧ k' ≤ k ∧ ∃ od' kvs, M' = (asn, oa) :: (d, od') :: K ∧ od'.IsDictOf (SK c) kvs ∧ kvs.map (·.1) = keys ∧ ∀ t u, valueAt kvs t = some u → DatIn P' u (.list ((if t ∈ keys.take i then ordT ms1 ms2 t else rowsOf mems t).map rowD)),
    ⟨h2, by omega, od, qs.map pKV, rfl, ok.od, by rw [pKV_names, hkeys], fun t u hu => by rw [List.take_zero, if_neg List.not_mem_nil]; exact (hv0 t u hu).mono fun p hp => List.mem_append_right _ hp⟩, ?_, ?_⟩
  · rintro i v o I ρ' M' P' k' s' hi ⟨dd, hd, hdv⟩ hsub ⟨hρ, hk', od', kvs, rfl, hod', hkk, hval⟩ S'
    rw [List.getElem?_map] at hd
    obtain ⟨t, ht, rfl⟩ := Option.map_eq_some_iff.mp hd
    obtain ⟨tt, rfl⟩ := dstr hdv
    have htk : t ∈ keys := List.mem_of_getElem? ht
    have htn : t ∉ keys.take i := by
      intro hin
      obtain ⟨j, hj, e⟩ := List.mem_take_iff_getElem.mp hin
      obtain ⟨hil, ei⟩ := List.getElem?_eq_some_iff.mp ht
      have := (List.getElem_inj (xs := keys) hknd (i := j) (j := i) (h₀ := by omega) (h₁ := hil)).mp (by rw [e, ei])
      omega
    have h3 := hρ.add (x := Str.ofString "topic") (v := .str t tt)
    have hrow : rowsOf mems t = rowsOf ms1 t ++ rowsOf ms2 t := by rw [hso, rowsOf_app]
    have hAo : ∀ r ∈ rowsOf ms1 t, ∃ g, r.1 = some g := rows_own (P := fun o => ∃ g, o = some g) h1s
    have hBo : ∀ r ∈ rowsOf ms2 t, r.1 = none := rows_own (P := fun o => o = none) h2s
    have hlen : (rowsOf ms1 t ++ rowsOf ms2 t).length ≤ 5 := hrow ▸ hr5 t
    have hl1 : (rowsOf ms1 t).length ≤ 5 := by rw [List.length_append] at hlen; omega
    have hl2 : (rowsOf ms2 t).length ≤ 5 := by rw [List.length_append] at hlen; omega
    refine ls_assign S' rfl (ac_nodup _) (haldl rfl rfl) rfl (b := 0) (PP := IsGrp c (rowsOf ms1 t) (rowsOf ms2 t)) (fun m cs C hm => ?_) (by omega) fun vg V3 k3 s3 hk3 S3 p3 => ?_
    · refine ev_callK (b1 := 0) (b2 := 0) D.X (by kernel_rfl) (f := .ref 133) (rd_glob D.toTops (by kernel_rfl) rfl rfl (by decide)) (ea1 (monoD (.list ((rowsOf ms1 t ++ rowsOf ms2 t).map rowD))) (ev_ditemR (d := d) (od := od') (kvs := kvs) (x := t) (List.mem_append_left _ (List.mem_append_right _ (List.mem_cons_of_mem _ (List.mem_cons_of_mem _ List.mem_cons_self)))) hod' (monoD _) (fun u hu => ?_) (hkk ▸ htk) (ev_nameV (adl rfl (by decide) rfl hm (h3 _ _ rfl))) (ev_nameD (adl rfl (by decide) rfl hm (h3 _ _ rfl)) (.str _ _)) fun _ _ => rfl) rfl) (fun vs Y' hs pv => ?_) rfl rfl
      · have := hval t u hu
        rw [if_neg htn, hrow] at this
        exact this
      · obtain ⟨v, rfl, hv⟩ := pv
        exact ec_group D hv hAo hBo (by omega)
    have h4 := h3.add (x := Str.ofString "grouped") (v := vg)
    refine ls_setitem (pre := [(asn, oa)]) (post := K) (b := d) (od := od') (kvs := kvs) (be := 0) (x := t) (PP := IsD (.list ((ordT ms1 ms2 t).map rowD))) S3 (fun m cs C hm => ?_) (fun m cs C hm => ev_nameV (adl rfl (by decide) rfl hm (h4 _ _ rfl))) (fun m cs C hm => ev_nameD (adl rfl (by decide) rfl hm (h4 _ _ rfl)) (.str _ _)) (by omega) (monoD _) hod' (by rw [← List.length_map (f := (·.1)), hkk]; omega) rfl fun v V4 k4 od4 s4 hk4 S4 hod4 p4 => ?_
    · have e : (ordT ms1 ms2 t).map rowD = (jsrt ltP ((rowsOf ms1 t).map unst)).map rowT ++ (jsrt (fun a b => ltS a.2 b.2) (rowsOf ms2 t)).map rowD := by
        unfold ordT ordOf
        rw [List.map_append, List.map_map]; rfl
      have rg : ∀ R, Rd c R m (AE c fa cd) (Str.ofString "grouped") vg := fun R => adl rfl (by decide) rfl hm (h4 _ _ rfl)
      rw [e]
      refine ev_addL (b1 := 0) (b2 := 0) ?_ (ev_callB (b1 := 0) (b2 := 0) (rd_built D.toTops (by kernel_rfl) (by boot_fast) (by decide) rfl rfl (by decide)) (ea1 (monoD (.list ((rowsOf ms1 t).map rowD))) (ev_bget (b := true) (ev_name (rg _) (monoGrp _ _) p3) rfl rfl rfl) rfl) (fun vs Y' hs pv => ?_) rfl rfl) (ev_sortK D (rd_built D.toTops (by kernel_rfl) (by boot_fast) (by decide) rfl rfl (by decide)) (rd_glob D.toTops (by kernel_rfl) rfl rfl (by decide)) (ev_bget (b := false) (ev_name (rg _) (monoGrp _ _) p3) rfl rfl rfl) hl2 rfl rfl rfl rfl rfl)
      · rw [List.length_map, List.length_map, jsrt_len ltP_ok (by rw [List.length_map]; exact hl1), jsrt_len (ltK_ok _) hl2, List.length_map]
        omega
      · obtain ⟨v, rfl, hv⟩ := pv
        rw [rows_stat hAo] at hv
        exact ec_sortT hv (by rw [List.length_map]; exact hl1)
    · obtain ⟨e1, e2⟩ := stored_in (v := v) (kvs := kvs) (hkk ▸ htk)
      refine wpAny_execs_nil ⟨rfl, _, _, _, _, S4, fun p hp => List.mem_append_right _ (List.mem_append_right _ hp), (h4.drop rfl).drop rfl, by omega, od4, _, rfl, hod4, by rw [e1, hkk], fun x u hu => ?_⟩
      rw [List.take_add_one, ht, Option.toList_some]
      rcases e2 x u hu with ⟨rfl, rfl⟩ | ⟨hx, hu'⟩
      · rw [if_pos (List.mem_append_right _ List.mem_cons_self)]
        exact p4
      · have := hval x u hu'
        by_cases hin : x ∈ keys.take i
        · rw [if_pos hin] at this
          rw [if_pos (List.mem_append_left _ hin)]
          exact this.mono fun p hp => List.mem_append_right _ (List.mem_append_right _ hp)
        · rw [if_neg hin] at this
          rw [if_neg fun h => (List.mem_append.mp h).elim hin fun h => hx (List.mem_singleton.mp h)]
          exact this.mono fun p hp => List.mem_append_right _ (List.mem_append_right _ hp)
  · rintro ρ' M' P' k' s' hsub ⟨hρ, hk', od', kvs, rfl, hod', hkk, hval⟩ S'
    rw [List.length_map, List.take_length] at hval
    refine next asn oa od' kvs ρ' k' s' P' hρ hk' (fun p hp => hsub p (List.mem_append_right _ (up1 p hp))) hlo hoa hod' hkk (fun t u hu => ?_) S'
    have := hval t u hu
    have hin : t ∈ keys := by
      rw [← hkk]
      unfold valueAt at hu
      obtain ⟨q, hq, _⟩ := Option.map_eq_some_iff.mp hu
      have h1 := List.find?_some hq
      simp only [decide_eq_true_eq] at h1
      exact List.mem_map.mpr ⟨q, List.mem_of_find?_eq_some hq, h1⟩
    rwa [if_pos hin] at this
end

end
section
section
variable {c : Cx} {R Y : Led} {m : Str → Option Value} {env : Env} {mean : ExcName → Option Value} {mg mb : Str → Option Value}
theorem ev_fmod {l r : Expr} {pos : Pos} {b1 b2 : Nat} {x y : Int} (h0 : y ≠ 0) (h1 : Ev c R Y m b1 (eval l env) (IsD (.int x))) (h2 : Ev c R Y m b2 (eval r env) (IsD (.int y))) : Ev c R Y m (b1 + b2) (eval (.BinOp l .Mod r pos) env) (IsD (.int (x.fmod y))) :=
  ev_bin h1 h2 fun v u Y' _ hv hu => by
    obtain ⟨tv, rfl⟩ := dint hv; obtain ⟨tu, rfl⟩ := dint hu
    intro s Z U k Q _ _ _ S _ ret
    exact PyProof.Rows.mod_int h0 (ret _ [] k s.heap _ (by omega) S.self Fresh.nil (.int _ _))
theorem ec_min {v u : Value} {x y : Int} (hh : c.A.handled = none) (hv : DatIn Y v (.int x)) (hu : DatIn Y u (.int y)) : Ev c R Y m 0 (call (.builtin "min") [v, u]) (IsD (.int (if y < x then y else x))) := by
  obtain ⟨tv, rfl⟩ := dint hv; obtain ⟨tu, rfl⟩ := dint hu
  intro s Z U k Q _ _ _ S _ ret
  obtain ⟨hd, ⟨t, n, e⟩, N⟩ := S.hd
  exact min_two_N hh S.F N fun h' tk F' N' => ret _ [] k h' tk (by omega) ⟨F', ⟨⟨t, n, e ▸ N'⟩, S.N.2⟩, S.k0⟩ Fresh.nil (.int _ _)
/-- what partitions_for_topic hands back -/
def IsPft (cln : List (Str × List Int)) (t : Str) : Led → Value → Prop := fun Y v => (lookT cln t = none ∧ v = .none) ∨ ∃ ns, lookT cln t = some ns ∧ DatIn Y v (.list (ns.map Dat.int))
/-- cluster.partitions_for_topic(e) -/
theorem ev_pft {o e : Expr} {ap cp : Pos} {cln : List (Str × List Int)} {t : Str} {pl : Sem Bool} (D : Deep c mean mg mb) (ho : Ev c R Y m 0 (eval o env) (IsClu c cln)) (he : Ev c R Y m 0 (eval e env) (IsD (.str t)))
    (hc : eval (.Call (.Attribute o (Str.ofString "partitions_for_topic") ap) [e] [] cp) env = (do
      let ov ← eval o env
      standAt ap.atName
      let (f, first) ← holding [ov] (getMethod ov (Str.ofString "partitions_for_topic") pl)
      callWith cp f first (backTo cp (starEach [e] env)) []))
    (hs : starEach [e] env = (false, eval e env) :: starEach [] env) (hpl : (backTo cp (starEach [] env)).any (·.1) = false) :
    Ev c R Y m 0 (eval (.Call (.Attribute o (Str.ofString "partitions_for_topic") ap) [e] [] cp) env) (IsPft cln t) := by
  intro s Z U k Q hR hY hU S hk ret
  refine MethodCall_ ?_ hc
  refine ho s Z U k _ hR hY hU S hk fun v V k1 hp1 tk1 hk1 S1 f1 p1 => ?_
  obtain ⟨clu, dc, hcc, tc, pd, nc, po, ckv, rfl, q1, q2, q3, q4, q5, q6, q7⟩ := p1
  have up : ∀ p ∈ V ++ U, p ∈ V ++ Z := fun p hp => (List.mem_append.mp hp).elim (List.mem_append_left _) fun h => List.mem_append_right _ (hU p h)
  refine method_inst (f := 119) S1.F D.X (InstAt.of_news S1.news (up _ q1) (up _ q2)) (by kernel_rfl) (by kernel_rfl) (by kernel_rfl) (by kernel_rfl) ?_
  refine callWith_K (first := [.ref clu]) D.X (by kernel_rfl) ?_ hs hpl
  refine (ea1 (monoD _) he hs) _ (V ++ Z) (V ++ U) k1 _ (fun p hp => List.mem_append_right _ (hR p hp)) (fun p hp => List.mem_append_right _ (hY p hp)) up S1 (by omega) fun vs V2 k2 hp2 tk2 hk2 S2 f2 p2 => ⟨D.X.keeps S2.F.keep, ?_⟩
  obtain ⟨u, rfl, hu⟩ := p2
  obtain ⟨tk, rfl⟩ := dstr hu
  obtain ⟨dp, un, gd, cn, cs, a, ccd, cl, outer, A₀, base, eA, Be, hkk, hd, hun⟩ := D.deep
  obtain ⟨hd0, hh, N⟩ := S2.hd
  have up2 : ∀ p ∈ V ++ U, p ∈ hd0 :: (V2 ++ (V ++ Z)) := fun p hp => List.mem_cons_of_mem _ (List.mem_append_right _ (up p hp))
  show wpAny _ _ (call (.ref 119) [.ref clu, .str t tk]) _ _ _
  rw [eA]
  refine pft_spec (x := valueAt ckv t) Be S2.F D.X N D.T hkk (up2 _ q1) (up2 _ q2) (up2 _ q3) q4 q5 rfl (by omega) (by omega) fun h' tk' F' N' => ?_
  obtain ⟨t', n', e'⟩ := hh
  refine ret _ (V2 ++ V) k2 h' tk' (by omega) (by rw [List.append_assoc]; exact ⟨F', ⟨⟨t', n', e' ▸ N'⟩, S2.N.2⟩, S2.k0⟩) (f1.app f2) ?_
  have q7' : DatAll (V ++ U) (ckv.map (·.2)) (cln.map fun p => Dat.list (p.2.map Dat.int)) := q7
  rcases lookT_val (t := t) q6 q7' with ⟨h1, h2⟩ | ⟨v, ns, h1, h2, h3⟩
  · rw [h1]; exact .inl ⟨h2, rfl⟩
  · rw [h1]; exact .inr ⟨ns, h2, (h3.mono fun p hp => by rw [List.append_assoc]; exact List.mem_append_right _ hp)⟩
/-- e is None -/
theorem ev_isNone {l : Expr} {pos cp : Pos} {kn : Nat} {t : Sem Value} {b : Nat} {B : Bool} {PP : Led → Value → Prop} (h1 : Ev c R Y m b (eval l env) PP) (hB : ∀ Y v, PP Y v → plainIs v .none = true ∧ (v == .none) = B) (hm : behindInMarks .Is (.Constant .none kn cp) = false) :
    Ev c R Y m b (isTrue (.Compare l [.Is] [.Constant .none kn cp] pos) env t) (IsB B) := by
  intro s Z U k Q hR hY hU S hk ret
  refine wpAny_isTrue_Compare1 ?_ hm
  refine h1 s Z U k _ hR hY hU S hk fun v V k1 hp1 tk1 hk1 S1 f1 p1 => ?_
  obtain ⟨a, e⟩ := hB _ v p1
  refine wpAny_Constant_none (wpAny_is_plain a ?_)
  rw [e]
  exact wpAny_truthy_bool (ret B V k1 hp1 tk1 hk1 S1 f1 rfl)
/-- e[i:j] -/
theorem ev_slice2 {e u w : Expr} {p pos : Pos} {ds : List Dat} {lo hi : Nat} (h1 : Ev c R Y m 0 (eval e env) (IsD (.list ds))) (hz : ds.length ≤ 1000) (h2 : Ev c R Y m 0 (eval u env) (IsD (.int (lo : Int)))) (h3 : Ev c R Y m 0 (eval w env) (IsD (.int (hi : Int))))
    (hs : ∀ o v, subscripted (.Slice (some u) (some w) none p) false o v = operate [v, o] (getItem o v)) :
    Ev c R Y m 0 (eval (.Subscript e (.Slice (some u) (some w) none p) pos) env) (IsD (.list ((ds.drop lo).take (hi - lo)))) := by
  intro s Z U k Q hR hY hU S hk ret
  refine Subscript_ ?_
  refine h1 s Z U k _ hR hY hU S (by omega) fun v V k1 hp1 tk1 hk1 S1 f1 p1 => ?_
  refine wpAny_Slice (wpAny_evalPart_some ?_)
  refine h2 _ (V ++ Z) (V ++ U) k1 _ (fun p hp => List.mem_append_right _ (hR p hp)) (fun p hp => List.mem_append_right _ (hY p hp)) (fun p hp => (List.mem_append.mp hp).elim (List.mem_append_left _) fun h => List.mem_append_right _ (hU p h)) S1 (by omega) fun u V2 k2 hp2 tk2 hk2 S2 f2 p2 => ?_
  obtain ⟨tj, rfl⟩ := dint p2
  refine wpAny_evalPart_some ?_
  refine h3 _ (V2 ++ (V ++ Z)) (V2 ++ (V ++ U)) k2 _ (fun p hp => List.mem_append_right _ (List.mem_append_right _ (hR p hp))) (fun p hp => List.mem_append_right _ (List.mem_append_right _ (hY p hp))) (fun p hp => (List.mem_append.mp hp).elim (List.mem_append_left _) fun h => List.mem_append_right _ ((List.mem_append.mp h).elim (List.mem_append_left _) fun h => List.mem_append_right _ (hU p h))) S2 (by omega) fun u3 V3 k3 hp3 tk3 hk3 S3 f3 p3 => ?_
  obtain ⟨th, rfl⟩ := dint p3
  refine wpAny_evalPart_none ?_
  obtain ⟨l, vs, n, rfl, hm, hall⟩ := dlist p1
  have hm' : _ ∈ V3 ++ (V2 ++ (V ++ Z)) := List.mem_append_right _ (List.mem_append_right _ ((List.mem_append.mp hm).elim (List.mem_append_left _) fun h => List.mem_append_right _ (hU _ h)))
  obtain ⟨hd, hh, N⟩ := S3.hd
  have hlv := hall.length
  refine slice_any S3.F N (jIsL N (List.mem_cons_of_mem _ hm')) (.int _ _) (.int _ _) (by omega) (fun D h' F' N' l1 => ?_) (hs _ _)
  have ep : DatAll (V ++ U) (kms_pick vs (some (lo : Int)) (some (hi : Int))) ((ds.drop lo).take (hi - lo)) := by
    have e1 : kms_pick vs (some (lo : Int)) (some (hi : Int)) = (vs.drop lo).take (hi - lo) := by
      unfold kms_pick kms_lo kms_hi
      dsimp only
      rw [if_neg (by omega), if_neg (by omega)]
      have e1 : ((lo : Int)).toNat = lo := by omega
      have e2 : ((hi : Int)).toNat = hi := by omega
      rw [e1, e2]
      by_cases h : lo ≤ vs.length
      · rw [Nat.min_eq_left h]
        by_cases h2 : hi ≤ vs.length
        · rw [Nat.min_eq_left h2]
        · rw [Nat.min_eq_right (by omega), List.take_of_length_le (by rw [List.length_drop]; omega), List.take_of_length_le (by rw [List.length_drop]; omega)]
      · have e3 : min lo vs.length = vs.length := Nat.min_eq_right (by omega)
        rw [e3, List.drop_of_length_le (l := vs) (i := vs.length) (Nat.le_refl _), List.drop_of_length_le (l := vs) (i := lo) (by omega), List.take_nil, List.take_nil]
    rw [e1]
    exact datAll_take _ (datAll_drop lo hall)
  refine Ev.made (P := IsD (.list ((ds.drop lo).take (hi - lo)))) (U := V3 ++ (V2 ++ (V ++ U))) (b := 0) (tk' := tk3) S3 hh F' N' l1 (DatIn.list List.mem_cons_self (ep.mono fun p hp => List.mem_cons_of_mem _ (List.mem_append_right _ (List.mem_append_right _ hp)))) fun v V4 k4 h4 tk4 hk4 S4 f4 p4 => ?_
  refine ret v (V4 ++ (V3 ++ (V2 ++ V))) k4 h4 tk4 (by omega) (by simpa only [List.append_assoc] using S4) ?_ (by simpa only [List.append_assoc] using p4)
  have f23 := (f1.app f2).app (W := V3) (by simpa only [List.append_assoc] using f3)
  exact f23.app (W := V4) (by simpa only [List.append_assoc] using f4)
end
section
variable {c : Cx} {cn : Str} {sc : Scope} {a : Addr} {ccd : Value} {cl : List (Str × Addr)} {s0 s : Shared} {ρ : Str → Option Value} {Fx M P : Led} {k : Int}
/-- a test whose outcome is known, with a body that ends in any way -/
theorem ls_ifB {test : Expr} {thn rest : List Stmt} {pos : Pos} {b : Nat} {B : Bool} {Q : Flow → Shared → Prop} {env : Env} (S : LS c cl s0 ρ Fx M P k s) (ht : EvL c cl ρ Fx M P b (isTrue test env (eval test env)) (IsB B)) (hb : k + b ≤ 890)
    (next : ∀ V k' s', k' ≤ k + b → LS c cl s0 ρ Fx M (V ++ P) k' s' → if B = true then wpAny (model PRG c.w) c.A (execs thn env) (fun f s' => match f with | .next => wpAny (model PRG c.w) c.A (execs rest env) Q (fun _ _ => False) s' | f => Q f s') (fun _ _ => False) s' else wpAny (model PRG c.w) c.A (execs rest env) Q (fun _ _ => False) s') :
    wpAny (model PRG c.w) c.A (execs (.If test thn [] pos :: rest) env) Q (fun _ _ => False) s :=
  wpAny_execs_cons (wpAny_If (S.eval ht hb fun v V k' s' hk' S' p' => by
    subst p'
    have := next V k' s' hk' S'
    cases v
    · exact wpAny_execs_nil this
    · exact this))
/-- x += e -/
theorem ls_aug {x : Str} {xp pos : Pos} {e : Expr} {rest : List Stmt} {a1 b1 : Int} {t1 : Tok} {Q : Flow → Shared → Prop} (S : LS c cl s0 ρ Fx M P k s) (hk : sc.kind = .function) (hcl : (cl.map (·.1)).Nodup) (hx : (envX cn sc c.L a ccd cl).kindOf x = some .local) (hxl : cl.lookup x = none) (hv : ρ x = some (.int a1 t1))
    (he : EvL c cl ρ Fx M P 0 (eval e (envX cn sc c.L a ccd cl)) (IsD (.int b1))) (hb : k ≤ 890)
    (next : ∀ tk V k' s', k' ≤ k → LS c cl s0 (upd ρ x (.int (a1 + b1) tk)) Fx M (V ++ P) k' s' → wpAny (model PRG c.w) c.A (execs rest (envX cn sc c.L a ccd cl)) Q (fun _ _ => False) s') :
    wpAny (model PRG c.w) c.A (execs (.AugAssign (.Name x xp) .Add e pos :: rest) (envX cn sc c.L a ccd cl)) Q (fun _ _ => False) s := by
  refine wpAny_execs_cons (wpAny_AugAssign_Name ?_)
  obtain ⟨m, cs, hp, tk, rfl, St, C, hm, nd, dj⟩ := id S
  refine wpAny_loadName_local hk hx St.F.ns ((hm x hxl).trans hv) ?_
  refine S.eval he (by omega) fun v V k' s' hk' S' p' => ?_
  obtain ⟨tv, rfl⟩ := dint p'
  refine PyProof.Rows.iadd_int ?_
  exact (S'.tok _).store hk hcl (.inl ⟨hx, hxl⟩) fun s2 S2 => next _ V k' s2 (by omega) S2
/-- if test: x += e -/
theorem ls_ifaug {x : Str} {xp pos pos2 : Pos} {test e : Expr} {rest : List Stmt} {B : Bool} {a1 b1 : Int} {t1 : Tok} {Q : Flow → Shared → Prop} (S : LS c cl s0 ρ Fx M P k s) (hk : sc.kind = .function) (hcl : (cl.map (·.1)).Nodup) (hx : (envX cn sc c.L a ccd cl).kindOf x = some .local) (hxl : cl.lookup x = none) (hv : ρ x = some (.int a1 t1))
    (ht : EvL c cl ρ Fx M P 0 (isTrue test (envX cn sc c.L a ccd cl) (eval test (envX cn sc c.L a ccd cl))) (IsB B)) (he : EvL c cl ρ Fx M P 0 (eval e (envX cn sc c.L a ccd cl)) (IsD (.int b1))) (hb : k ≤ 890)
    (next : ∀ ρ' tk V k' s', k' ≤ k → (∀ y, y ≠ x → ρ' y = ρ y) → ρ' x = some (.int (a1 + if B = true then b1 else 0) tk) → LS c cl s0 ρ' Fx M (V ++ P) k' s' → wpAny (model PRG c.w) c.A (execs rest (envX cn sc c.L a ccd cl)) Q (fun _ _ => False) s') :
    wpAny (model PRG c.w) c.A (execs (.If test [.AugAssign (.Name x xp) .Add e pos2] [] pos :: rest) (envX cn sc c.L a ccd cl)) Q (fun _ _ => False) s := by
  refine ls_ifB (b := 0) S ht (by omega) fun V k' s' hk' S' => ?_
  cases B with
  | true =>
    rw [if_pos rfl]
    have he' : EvL c cl ρ Fx M (V ++ P) 0 (eval e (envX cn sc c.L a ccd cl)) (IsD (.int b1)) := fun m cs C hm => (he m cs C hm).sub (fun p hp => (List.mem_append.mp hp).elim (List.mem_append_left _) fun h => List.mem_append_right _ (List.mem_append_right _ h)) fun p hp => List.mem_append_right _ hp
    exact ls_aug S' hk hcl hx hxl hv he' (by omega) fun tk V2 k2 s2 hk2 S2 => wpAny_execs_nil (next _ tk (V2 ++ V) k2 s2 (by omega) (fun y hy => upd_ne hy) (by rw [upd_self, if_pos rfl]) (by rw [List.append_assoc]; exact S2))
  | false =>
    rw [if_neg (by decide)]
    exact next ρ t1 V k' s' (by omega) (fun _ _ => rfl) (by rw [hv, if_neg (by decide), Int.add_zero]) S'
/-- d.setdefault(key, {})[x] = e -/
theorem ls_sdset {o ke ie e : Expr} {ap cp dp tp pos : Pos} {rest : List Stmt} {Q : Flow → Shared → Prop} {env : Env} {d : Addr} {od : Obj} {qs : List (Str × Addr)} {ob : Str → Obj} {kv : Str → List (Str × Value)} {K : Led} {t x : Str} {pl : Sem Bool} {PP : Led → Value → Prop} (hno : c.h₀.NoLimit) (hP : Mono PP)
    (S : LS c cl s0 ρ Fx (DM d od qs ob K) P k s) (ok : DOk c d od qs) (hob : ∀ y ∈ qs.map (·.1), (ob y).IsDictOf (SK c) (kv y) ∧ (kv y).length ≤ 1000) (hkv : ∀ y, y ∉ qs.map (·.1) → kv y = []) (hz : qs.length ≤ 1000) (hk : k ≤ 890)
    (he : EvL c cl ρ Fx (DM d od qs ob K) P 0 (eval e env) PP) (ho : EvL c cl ρ Fx (DM d od qs ob K) P 0 (eval o env) (fun _ v => v = .ref d)) (hke : EvL c cl ρ Fx (DM d od qs ob K) P 0 (eval ke env) (IsD (.str t))) (hie : ∀ M', EvL c cl ρ Fx M' P 0 (eval ie env) (IsD (.str x)))
    (hc : eval (.Call (.Attribute o (Str.ofString "setdefault") ap) [ke, .Dict [] [] dp] [] cp) env = (do
      let ov ← eval o env
      standAt ap.atName
      let (f, first) ← holding [ov] (getMethod ov (Str.ofString "setdefault") pl)
      callWith cp f first (backTo cp (starEach [ke, .Dict [] [] dp] env)) []))
    (hs : starEach [ke, .Dict [] [] dp] env = (false, eval ke env) :: starEach [.Dict [] [] dp] env) (hs2 : starEach [.Dict [] [] dp] env = (false, eval (.Dict [] [] dp) env) :: starEach [] env)
    (hsw : swapsWith e (some (.Subscript (.Call (.Attribute o (Str.ofString "setdefault") ap) [ke, .Dict [] [] dp] [] cp) ie tp)) pos.line env = pure false)
    (next : ∀ qs' od' ob' v V k' s', k' ≤ k → LS c cl s0 ρ Fx (DM d od' qs' ob' K) (V ++ P) k' s' → DOk c d od' qs' → (∀ q ∈ qs', q ∈ qs ∨ (q.2 == sysModules) = false) → qs'.map (·.1) = (if t ∈ qs.map (·.1) then qs.map (·.1) else qs.map (·.1) ++ [t]) → (ob' t).IsDictOf (SK c) (stored (kv t) x v) → (∀ y, y ≠ t → ob' y = ob y) → PP (V ++ P) v → wpAny (model PRG c.w) c.A (execs rest env) Q (fun _ _ => False) s') :
    wpAny (model PRG c.w) c.A (execs (.Assign [.Subscript (.Call (.Attribute o (Str.ofString "setdefault") ap) [ke, .Dict [] [] dp] [] cp) ie tp] e pos :: rest) env) Q (fun _ _ => False) s := by
  refine wpAny_execs_cons (wpAny_Assign_Subscript (S.eval he (by omega) fun v V k1 s1 hk1 S1 p1 => ?_) hsw)
  refine ls_setdef (PO := fun b o => (b == sysModules) = false ∧ o.IsDictOf (SK c) []) S1 ok hz (by omega) ho.pool hke.pool (fun s m Z Q F N ret => newDict_K F N hno fun d h' o F' N' l lo a b e f => ret d o h' s.toks F' N' l ⟨lo, a⟩) hc hs hs2 rfl fun b qs' od' ob' V2 k2 s2 hk2 S2 ok2 hb hcase => ?_
  have hie2 : EvL c cl ρ Fx (DM d od' qs' ob' K) (V2 ++ (V ++ P)) 0 (eval ie env) (IsD (.str x)) := (hie _).pool.pool
  refine S2.eval hie2 (by omega) fun iv V3 k3 s3 hk3 S3 p3 => ?_
  obtain ⟨tk, rfl⟩ := dstr p3
  obtain ⟨q1, q2, eq1, eM⟩ := dm_split (d := d) (od := od') (ob := ob') (K := K) hb
  rw [eM] at S3
  have hd' : (ob' t).IsDictOf (SK c) (kv t) ∧ (kv t).length ≤ 1000 := by
    rcases hcase with ⟨hin, rfl, rfl⟩ | ⟨hnin, _, hnew, _⟩
    · exact hob t hin
    · rw [hkv t hnin]; exact ⟨hnew.2, Nat.zero_le _⟩
  obtain ⟨m4, Z4, g, F4, N4, U4, sub4, back4⟩ := S3.open
  refine kda_set (knd := SK c) F4 N4 U4 hd'.1 (strKind_is _ _ _ _) (by rw [sizeLine_eq]; have := hd'.2; omega) fun h' o' F' N' ho' => ?_
  have S5 : ∀ tk', LS c cl s0 ρ Fx (DM d od' qs' (fun y => if y = t then o' else ob' y) K) (V3 ++ (V2 ++ (V ++ P))) k3 { s3 with heap := h', toks := tk' } := fun tk' => by
    have := back4 o' h' tk' F' N'
    rwa [dm_join eq1 ok2.nd] at this
  refine next qs' od' _ v (V3 ++ (V2 ++ V)) k3 _ (by omega) (by rw [List.append_assoc, List.append_assoc]; exact S5 _) ok2 (fun q hq => ?_) ?_ (by rw [if_pos rfl]; exact ho') (fun y hy => ?_) (hP _ _ _ (fun p hp => ?_) p1)
  · rcases hcase with ⟨hin, rfl, rfl⟩ | ⟨hnin, rfl, hnew, _⟩
    · exact .inl hq
    · rcases List.mem_append.mp hq with h | h
      · exact .inl h
      · rw [List.mem_singleton.mp h]; exact .inr hnew.1
  · rcases hcase with ⟨hin, rfl, rfl⟩ | ⟨hnin, rfl, _, _⟩
    · rw [if_pos hin]
    · rw [if_neg hnin, List.map_append]; rfl
  · rw [if_neg hy]
    rcases hcase with ⟨_, _, rfl⟩ | ⟨_, _, _, h⟩
    · rfl
    · exact h y hy
  · rw [List.append_assoc, List.append_assoc]
    exact List.mem_append_right _ (List.mem_append_right _ hp)
end

end
section
section
variable {c : Cx} {R Y : Led} {m : Str → Option Value} {env : Env}
theorem ev_not {x : Expr} {pos : Pos} {t : Sem Value} {b : Nat} {B : Bool} (h : Ev c R Y m b (isTrue x env (eval x env)) (IsB B)) : Ev c R Y m b (isTrue (.UnaryOp .Not x pos) env t) (IsB (!B)) := by
  intro s Z U k Q hR hY hU S hk ret
  refine wpAny_isTrue_Not ?_
  exact h s Z U k _ hR hY hU S hk fun v V k1 hp1 tk1 hk1 S1 f1 p1 => ret (!v) V k1 hp1 tk1 hk1 S1 f1 (by rw [p1])
end
theorem valueAt_get {t : Str} {u : Value} : ∀ {kvs : List (Str × Value)} {i : Nat}, (kvs.map (·.1)).Nodup → kvs[i]? = some (t, u) → valueAt kvs t = some u
  | [], _, _, h => by cases h
  | p :: kvs, 0, _, h => by
    obtain rfl := Option.some.inj h
    simp [valueAt]
  | p :: kvs, i + 1, nd, h => by
    rw [List.map_cons, List.nodup_cons] at nd
    have h : kvs[i]? = some (t, u) := h
    have ih := valueAt_get nd.2 h
    have hne : ¬ p.1 = t := fun e => nd.1 (e ▸ List.mem_map.mpr ⟨_, List.mem_of_getElem? h, rfl⟩)
    unfold valueAt at ih ⊢
    rw [List.find?_cons_of_neg (by simpa using hne)]
    exact ih
/-- what one member has, as a dict -/
def PrsAt (c : Cx) (P : Led) (o : Obj) (prs : List (Str × List Int)) : Prop := ∃ kvs, o.IsDictOf (SK c) kvs ∧ kvs.map (·.1) = prs.map (·.1) ∧ DatAll P (kvs.map (·.2)) (prs.map fun p => Dat.list (p.2.map Dat.int))
theorem PrsAt.mono {c : Cx} {P P' : Led} {o : Obj} {prs : List (Str × List Int)} (h : PrsAt c P o prs) (hs : ∀ p ∈ P, p ∈ P') : PrsAt c P' o prs := by
  obtain ⟨kvs, a, b, d⟩ := h
  exact ⟨kvs, a, b, d.mono hs⟩
theorem lo_int (dn en j : Nat) : ((dn : Int) * (j : Int)) + (if (en : Int) < (j : Int) then (en : Int) else (j : Int)) = ((dn * j + min j en : Nat) : Int) := by
  by_cases h : (en : Int) < (j : Int)
  · rw [if_pos h, Nat.min_eq_right (by omega)]; push_cast; rfl
  · rw [if_neg h, Nat.min_eq_left (by omega)]; push_cast; rfl
section
variable {c : Cx} {fa : Addr} {cd : Value} {mean : ExcName → Option Value} {mg mb : Str → Option Value} {s0 s : Shared} {ρ : Str → Option Value} {P : Led} {k : Int}
/-- the pieces -/
theorem asgC {clu d asn : Addr} {vm : Value} {oa od : Obj} {kvs : List (Str × Value)} {K : Led} {ms1 ms2 : List Mem} {keys nms : List Str} {cln : List (Str × List Int)} {Q : Flow → Shared → Prop} (D : Deep c mean mg mb) (S : LS c (AC c.L) s0 ρ [] ((asn, oa) :: (d, od) :: K) P k s) (hl : Hs ρ (A2 clu vm d asn)) (hk : k ≤ 890)
    (loa : (asn == sysModules) = false) (hoa : oa.IsDictOf (SK c) []) (lod : (d == sysModules) = false) (hod : od.IsDictOf (SK c) kvs) (hkk : kvs.map (·.1) = keys) (hknd : keys.Nodup) (hk5 : keys.length ≤ 5) (hval : ∀ t u, valueAt kvs t = some u → DatIn P u (.list ((ordT ms1 ms2 t).map rowD))) (hclu : IsClu c cln P (.ref clu))
    (hond : ∀ t, (ordN ms1 ms2 t).Nodup) (ho5 : ∀ t, (ordT ms1 ms2 t).length ≤ 5) (hne : ∀ t ∈ keys, ordT ms1 ms2 t ≠ []) (hc7 : ∀ t ns, lookT cln t = some ns → ns.length ≤ 7) (hnm : ∀ t, ∀ x ∈ ordN ms1 ms2 t, x ∈ nms) (hn5 : nms.length ≤ 5)
    (next : ∀ oa' qs ob ρ' k' s' P', Hs ρ' (A2 clu vm d asn) → k' ≤ k → (∀ p ∈ P, p ∈ P') → DOk c asn oa' qs → (∀ q ∈ qs, (q.2 == sysModules) = false) → (∀ x, x ∈ qs.map (·.1) ↔ gotOf cln ms1 ms2 keys x ≠ []) → (∀ x ∈ qs.map (·.1), PrsAt c P' (ob x) (gotOf cln ms1 ms2 keys x)) → LS c (AC c.L) s0 ρ' [] (DM asn oa' qs ob K) P' k' s' → WA c fa cd aw5 Q s') : WA c fa cd aw4 Q s := by
  have S1 : LS c (AC c.L) s0 ρ [] (DM asn oa [] (fun _ => oa) K) ((d, od) :: P) k s := LS.freeze (pre := [(asn, oa)]) (post := K) S
  delta aw4 sta4
  refine ls_items (d := d) (od := od) (kvs := kvs) S1 D.hh rfl (ac_nodup _) (haldl rfl rfl) (haldl rfl rfl) (fun _ => rfl) (fun m cs C hm => ev_nameV (adl rfl (by decide) rfl hm (hl _ _ rfl))) List.mem_cons_self hod lod hk rfl rfl fun V k1 hk1 => ?_
  refine ⟨fun i ρ' M' P' k' => Hs ρ' (A2 clu vm d asn) ∧ k' ≤ k ∧ ∃ oa qs ob, M' = DM asn oa qs ob K ∧ DOk c asn oa qs ∧ (∀ q ∈ qs, (q.2 == sysModules) = false) ∧ (∀ x, x ∈ qs.map (·.1) ↔ gotOf cln ms1 ms2 (keys.take i) x ≠ []) ∧ ∀ x ∈ qs.map (·.1), PrsAt c P' (ob x) (gotOf cln ms1 ms2 (keys.take i) x),
    ⟨hl, hk1, oa, [], fun _ => oa, rfl, ⟨loa, hoa, List.nodup_nil⟩, fun q hq => (absurd hq List.not_mem_nil), fun x => by simp [gotOf], fun x hx => by cases hx⟩, ?_, ?_⟩
  · rintro i its ρ' M' P' k' s' t tt u hkv hsub ⟨hρ, hk', oa, qs, ob, rfl, ok, hlq, hqs, hob⟩ S'
    have ht : keys[i]? = some t := by rw [← hkk, List.getElem?_map, hkv]; rfl
    have htk : t ∈ keys := List.mem_of_getElem? ht
    have htn : t ∉ keys.take i := by
      intro hin
      obtain ⟨j, hj, e⟩ := List.mem_take_iff_getElem.mp hin
      obtain ⟨hil, ei⟩ := List.getElem?_eq_some_iff.mp ht
      have := (List.getElem_inj (xs := keys) hknd (i := j) (j := i) (h₀ := by omega) (h₁ := hil)).mp (by rw [e, ei])
      omega
    have up : ∀ p ∈ P, p ∈ P' := fun p hp => hsub p (List.mem_append_right _ (List.mem_cons_of_mem _ hp))
    have hu : DatIn P' u (.list ((ordT ms1 ms2 t).map rowD)) := by
      refine (hval t u ?_).mono up
      exact valueAt_get (hkk ▸ hknd) hkv
    have hclu' := monoClu cln _ _ _ up hclu
    have hT : Hs _ ((Str.ofString "consumers_for_topic", u) :: (Str.ofString "topic", .str t tt) :: A2 clu vm d asn) := (hρ.add (x := Str.ofString "topic") (v := .str t tt)).add (x := Str.ofString "consumers_for_topic") (v := u)
    have hgs := fun x => got_step (cln := cln) (ms1 := ms1) (ms2 := ms2) ht x
    refine ls_assign S' rfl (ac_nodup _) (haldl rfl rfl) rfl (b := 0) (PP := IsPft cln t) (fun m cs C hm => ?_) (by omega) fun vp V2 k2 s2 hk2 S2 p2 => ?_
    · exact ev_pft D (ev_name (adl rfl (by decide) rfl hm (hT _ _ rfl)) (monoClu cln) hclu') (ev_nameD (adl rfl (by decide) rfl hm (hT _ _ rfl)) (.str _ _)) rfl rfl rfl
    have h2 := hT.add (x := Str.ofString "partitions") (v := vp)
    have up2 : ∀ p ∈ P', p ∈ V2 ++ P' := fun p hp => List.mem_append_right _ hp
    rcases p2 with ⟨hnone, rfl⟩ | ⟨ns, hns, hvp⟩
    · -- nobody knows the topic
      refine ls_ifB (b := 0) (B := true) S2 (fun m cs C hm => ev_isNone (PP := fun _ v => v = .none) (ev_nameV (adl rfl (by decide) rfl hm (h2 _ _ rfl))) (fun Y v e => by subst e; exact ⟨rfl, rfl⟩) rfl) (by omega) fun V3 k3 s3 hk3 S3 => ?_
      rw [if_pos rfl]
      refine wpAny_execs_cons (wpAny_Continue ⟨.inr rfl, _, _, _, _, S3, fun p hp => List.mem_append_right _ (up2 p hp), ((h2.drop rfl).drop rfl).drop rfl, by omega, oa, qs, ob, rfl, ok, hlq, fun x => ?_, fun x hx => ?_⟩)
      · rw [hgs, piece_none hnone, List.append_nil]; exact hqs x
      · rw [hgs, piece_none hnone, List.append_nil]
        exact (hob x hx).mono fun p hp => List.mem_append_right _ (up2 p hp)
    · have hn7 := hc7 t ns hns
      refine ls_ifB (b := 0) (B := false) S2 (fun m cs C hm => ev_isNone (PP := fun Y v => ∃ a, v = .ref a) ((ev_nameV (adl rfl (by decide) rfl hm (h2 _ _ rfl))).imp fun Y v e => by
        obtain ⟨a, _, _, e2, _⟩ := dlist hvp
        exact ⟨a, e.trans e2⟩) (fun Y v e => by obtain ⟨a, rfl⟩ := e; exact ⟨rfl, rfl⟩) rfl) (by omega) fun V3 k3 s3 hk3 S3 => ?_
      rw [if_neg (by decide)]
      have up3 : ∀ p ∈ V2 ++ P', p ∈ V3 ++ (V2 ++ P') := fun p hp => List.mem_append_right _ hp
      refine ls_assign S3 rfl (ac_nodup _) (haldl rfl rfl) rfl (b := 0) (PP := IsD (.list ((sortZ ns).map Dat.int))) (fun m cs C hm => ?_) (by omega) fun vs V4 k4 s4 hk4 S4 p4 => ?_
      · refine ev_callB (b1 := 0) (b2 := 0) (rd_built D.toTops (by kernel_rfl) (by boot_fast) (by decide) rfl rfl (by decide)) (ea1 (monoD (.list (ns.map Dat.int))) (ev_nameD (adl rfl (by decide) rfl hm (h2 _ _ rfl)) (hvp.mono up3)) rfl) (fun vs Y' hs pv => ?_) rfl rfl
        obtain ⟨v, rfl, hv⟩ := pv
        exact ec_sortI hv (by omega)
      have hsl : (sortZ ns).length = ns.length := (sortZ_perm ns).length_eq
      have h4 := (hT.keep (x := Str.ofString "partitions") (v := vp) rfl).add (x := Str.ofString "partitions") (v := vs)
      obtain ⟨ord, hord⟩ : ∃ ord, ord = ordT ms1 ms2 t := ⟨_, rfl⟩
      have hordN : ord.map (·.2) = ordN ms1 ms2 t := by rw [hord]; rfl
      have hol : ord.length ≤ 5 := hord ▸ ho5 t
      have hopos : 0 < ord.length := by
        rw [hord]
        exact Nat.pos_of_ne_zero fun h => hne t htk (List.length_eq_zero_iff.mp h)
      rw [← hord] at hu
      have hu4 : DatIn (V4 ++ (V3 ++ (V2 ++ P'))) u (.list (ord.map rowD)) := hu.mono fun p hp => List.mem_append_right _ (up3 p (up2 p hp))
      have lenC : ∀ {m : Str → Option Value} {ρx : Str → Option Value} {X Y : Led} {p1 p2 pp : Pos}, (∀ x, (AC c.L).lookup x = none → m x = ρx x) → ρx (Str.ofString "consumers_for_topic") = some u → (∀ p ∈ V4 ++ (V3 ++ (V2 ++ P')), p ∈ Y) → Ev c X Y m 0 (eval (.Call (.Name (Str.ofString "len") p1) [.Name (Str.ofString "consumers_for_topic") p2] [] pp) (AE c fa cd)) (IsD (.int ((ord.length : Nat) : Int))) := by
        intro m ρx X Y p1 p2 pp hm hx hY
        refine ev_callB (b1 := 0) (b2 := 0) (rd_built D.toTops (by kernel_rfl) (by boot_fast) (by decide) rfl rfl (by decide)) (ea1 (monoD (.list (ord.map rowD))) (ev_nameD (adl rfl (by decide) rfl hm hx) (hu4.mono hY)) rfl) (fun vs Y' hs pv => ?_) rfl rfl
        obtain ⟨v, rfl, hv⟩ := pv
        exact (ec_len hv (by rw [List.length_map]; omega)).imp fun Y v h => by rw [List.length_map] at h; exact h
      have lenP : ∀ {m : Str → Option Value} {ρx : Str → Option Value} {X Y : Led} {p1 p2 pp : Pos}, (∀ x, (AC c.L).lookup x = none → m x = ρx x) → ρx (Str.ofString "partitions") = some vs → (∀ p ∈ V4 ++ (V3 ++ (V2 ++ P')), p ∈ Y) → Ev c X Y m 0 (eval (.Call (.Name (Str.ofString "len") p1) [.Name (Str.ofString "partitions") p2] [] pp) (AE c fa cd)) (IsD (.int ((ns.length : Nat) : Int))) := by
        intro m ρx X Y p1 p2 pp hm hx hY
        refine ev_callB (b1 := 0) (b2 := 0) (rd_built D.toTops (by kernel_rfl) (by boot_fast) (by decide) rfl rfl (by decide)) (ea1 (monoD (.list ((sortZ ns).map Dat.int))) (ev_nameD (adl rfl (by decide) rfl hm hx) (p4.mono hY)) rfl) (fun vs Y' hs pv => ?_) rfl rfl
        obtain ⟨v, rfl, hv⟩ := pv
        exact (ec_len hv (by rw [List.length_map]; omega)).imp fun Y v h => by rw [List.length_map, hsl] at h; exact h
      obtain ⟨dn, hdn⟩ : ∃ dn : Nat, dn = ns.length / ord.length := ⟨_, rfl⟩
      obtain ⟨en, hen⟩ : ∃ en : Nat, en = ns.length % ord.length := ⟨_, rfl⟩
      refine ls_assign S4 rfl (ac_nodup _) (haldl rfl rfl) rfl (b := 0) (PP := IsD (.int (dn : Int))) (fun m cs C hm => ?_) (by omega) fun v5 V5 k5 s5 hk5 S5 p5 => ?_
      · refine (ev_fdiv (b1 := 0) (b2 := 0) (by omega) (PyProof.noPylong_small (by omega)) (lenP hm (h4 _ _ rfl) fun _ h => h) (lenC hm (h4 _ _ rfl) fun _ h => h)).imp fun Y v h => ?_
        rw [Int.fdiv_eq_ediv_of_nonneg _ (by omega)] at h
        rw [hdn]; exact h
      obtain ⟨t5, rfl⟩ := dint p5
      have h5 := h4.add (x := Str.ofString "partitions_per_consumer") (v := .int (dn : Int) t5)
      refine ls_assign S5 rfl (ac_nodup _) (haldl rfl rfl) rfl (b := 0) (PP := IsD (.int (en : Int))) (fun m cs C hm => ?_) (by omega) fun v6 V6 k6 s6 hk6 S6 p6 => ?_
      · refine (ev_fmod (b1 := 0) (b2 := 0) (by omega) (lenP hm (h5 _ _ rfl) fun p hp => List.mem_append_right _ hp) (lenC hm (h5 _ _ rfl) fun p hp => List.mem_append_right _ hp)).imp fun Y v h => ?_
        rw [Int.fmod_eq_emod_of_nonneg _ (by omega)] at h
        rw [hen]; exact h
      obtain ⟨t6, rfl⟩ := dint p6
      have h6 := h5.add (x := Str.ofString "consumers_with_extra") (v := .int (en : Int) t6)
      have up6 : ∀ p ∈ V4 ++ (V3 ++ (V2 ++ P')), p ∈ V6 ++ (V5 ++ (V4 ++ (V3 ++ (V2 ++ P')))) := fun p hp => List.mem_append_right _ (List.mem_append_right _ hp)
      refine ls_enum (ds := ord.map rowD) S6 D.hh rfl (ac_nodup _) (haldl rfl rfl) (haldl rfl rfl) (fun _ => rfl) (fun R m => rd_built D.toTops (by kernel_rfl) (by boot_fast) (by decide) rfl rfl (by decide)) (fun m cs C hm => ev_nameD (adl rfl (by decide) rfl hm (h6 _ _ rfl)) (hu4.mono up6)) (by omega) rfl rfl fun V7 k7 hk7 => ?_
      have hbase : ∀ x, gotOf cln ms1 ms2 (keys.take i) x ++ pieceOf cln (ord.map (·.2)) t x 0 = gotOf cln ms1 ms2 (keys.take i) x := fun x => by rw [piece_zero, List.append_nil]
      refine ⟨fun j ρ2 M2 P2 k8 => Hs ρ2 ((Str.ofString "consumers_with_extra", .int (en : Int) t6) :: (Str.ofString "partitions_per_consumer", .int (dn : Int) t5) :: (Str.ofString "partitions", vs) :: (Str.ofString "consumers_for_topic", u) :: (Str.ofString "topic", .str t tt) :: A2 clu vm d asn) ∧ k8 ≤ k ∧ ∃ oa qs ob, M2 = DM asn oa qs ob K ∧ DOk c asn oa qs ∧ (∀ q ∈ qs, (q.2 == sysModules) = false) ∧ (∀ x, x ∈ qs.map (·.1) ↔ gotOf cln ms1 ms2 (keys.take i) x ++ pieceOf cln (ord.map (·.2)) t x j ≠ []) ∧ ∀ x ∈ qs.map (·.1), PrsAt c P2 (ob x) (gotOf cln ms1 ms2 (keys.take i) x ++ pieceOf cln (ord.map (·.2)) t x j),
        ⟨h6, by omega, oa, qs, ob, rfl, ok, hlq, fun x => by rw [hbase]; exact hqs x, fun x hx => by rw [hbase]; exact (hob x hx).mono fun p hp => List.mem_append_right _ (up6 p (List.mem_append_right _ (up3 p (up2 p hp))))⟩, ?_, ?_⟩
      · rintro j its2 ρ2 M2 P2 k8 s8 tj d2 uj hd2 huj hsub2 ⟨hρ2, hk8, oa2, qs2, ob2, rfl, ok2, hlq2, hqs2, hob2⟩ S8
        rw [List.getElem?_map] at hd2
        obtain ⟨r, hr, rfl⟩ := Option.map_eq_some_iff.mp hd2
        have hj : j < ord.length := (List.getElem?_eq_some_iff.mp hr).1
        have hnj : (ord.map (·.2))[j]? = some r.2 := by rw [List.getElem?_map, hr]; rfl
        have hondt : (ord.map (·.2)).Nodup := hordN ▸ hond t
        have hpcs : ∀ x, gotOf cln ms1 ms2 (keys.take i) x ++ pieceOf cln (ord.map (·.2)) t x (j + 1) = (gotOf cln ms1 ms2 (keys.take i) x ++ pieceOf cln (ord.map (·.2)) t x j) ++ (if r.2 = x then [(t, sliceOf ns (ord.map (·.2)).length j)] else []) := fun x => by rw [piece_step hondt hns hnj, List.append_assoc]
        have h8 := (hρ2.add (x := Str.ofString "i") (v := .int (j : Int) tj)).add (x := Str.ofString "ids") (v := uj)
        have hvs2 : DatIn P2 vs (.list ((sortZ ns).map Dat.int)) := p4.mono fun p hp => hsub2 p (List.mem_append_right _ (up6 p hp))
        refine ls_assign S8 rfl (ac_nodup _) (haldl rfl rfl) rfl (b := 0) (PP := IsD (.str r.2)) (fun m cs C hm => ?_) (by omega) fun v9 V9 k9 s9 hk9 S9 p9 => ?_
        · exact ev_titem (b1 := 0) (b2 := 0) (ds := [ownD r.1, .str r.2]) (j := 1) (ev_nameD (adl rfl (by decide) rfl hm (h8 _ _ rfl)) huj) ev_int (by decide) rfl (by show 2 ≤ 1000; decide) fun _ _ => rfl
        obtain ⟨t9, rfl⟩ := dstr p9
        have h9 := h8.add (x := Str.ofString "member_id") (v := .str r.2 t9)
        refine ls_assign S9 rfl (ac_nodup _) (haldl rfl rfl) rfl (b := 0) (PP := IsD (.int ((dn : Int) * (j : Int)))) (fun m cs C hm => ?_) (by omega) fun v10 V10 k10 s10 hk10 S10 p10 => ?_
        · exact ev_mul (b1 := 0) (b2 := 0) (IntMulOk.of_right (intBits_le_64 (by omega) (by omega))) (ev_nameD (adl rfl (by decide) rfl hm (h9 _ _ rfl)) (.int _ _)) (ev_nameD (adl rfl (by decide) rfl hm (h9 _ _ rfl)) (.int _ _))
        obtain ⟨t10, rfl⟩ := dint p10
        have h10 := h9.add (x := Str.ofString "start") (v := .int ((dn : Int) * (j : Int)) t10)
        refine ls_aug (b1 := if (en : Int) < (j : Int) then (en : Int) else (j : Int)) S10 rfl (ac_nodup _) rfl rfl (h10 _ _ rfl) (fun m cs C hm => ?_) (by omega) fun t11 V11 k11 s11 hk11 S11 => ?_
        · refine ev_callB (b1 := 0) (b2 := 0) (rd_built D.toTops (by kernel_rfl) (by boot_fast) (by decide) rfl rfl (by decide)) (ea2 (monoD (.int (j : Int))) (monoD (.int (en : Int))) (ev_nameD (adl rfl (by decide) rfl hm (h10 _ _ rfl)) (.int _ _)) (ev_nameD (adl rfl (by decide) rfl hm (h10 _ _ rfl)) (.int _ _)) rfl rfl) (fun vs Y' hs pv => ?_) rfl rfl
          obtain ⟨v, u, rfl, hv, hu⟩ := pv
          exact ec_min D.hh hv hu
        rw [lo_int] at S11
        obtain ⟨lo, hlo⟩ : ∃ lo : Nat, lo = dn * j + min j en := ⟨_, rfl⟩
        rw [← hlo] at S11
        have h11 := (h9.keep (x := Str.ofString "start") (v := .int ((dn : Int) * (j : Int)) t10) rfl).add (x := Str.ofString "start") (v := .int (lo : Int) t11)
        refine ls_assign S11 rfl (ac_nodup _) (haldl rfl rfl) rfl (b := 0) (PP := IsD (.int (dn : Int))) (fun m cs C hm => ev_nameD (adl rfl (by decide) rfl hm (h11 _ _ rfl)) (.int _ _)) (by omega) fun v12 V12 k12 s12 hk12 S12 p12 => ?_
        obtain ⟨t12, rfl⟩ := dint p12
        have h12 := h11.add (x := Str.ofString "length") (v := .int (dn : Int) t12)
        have h12k := h11.keep (x := Str.ofString "length") (v := .int (dn : Int) t12) rfl
        refine ls_ifaug (B := !decide ((j : Int) + 1 > (en : Int))) (b1 := 1) S12 rfl (ac_nodup _) rfl rfl (h12 _ _ rfl) (fun m cs C hm => ev_not (ev_gt (b1 := 0) (b2 := 0) (ev_add (b1 := 0) (b2 := 0) (ev_nameD (adl rfl (by decide) rfl hm (h12 _ _ rfl)) (.int _ _)) ev_int) (ev_nameD (adl rfl (by decide) rfl hm (h12 _ _ rfl)) (.int _ _)) rfl)) (fun m cs C hm => ev_int) (by omega) fun ρ13 t13 V13 k13 s13 hk13 hoth hlen S13 => ?_
        obtain ⟨ln, hln⟩ : ∃ ln : Nat, ln = dn + if j + 1 ≤ en then 1 else 0 := ⟨_, rfl⟩
        have elen : ((dn : Int) + if (!decide ((j : Int) + 1 > (en : Int))) = true then 1 else 0) = (ln : Int) := by
          rw [hln]
          by_cases h : j + 1 ≤ en
          · rw [if_pos h, if_pos (by simp; omega)]; push_cast; rfl
          · rw [if_neg h, if_neg (by simp; omega)]; push_cast; rfl
        rw [elen] at hlen
        have hHS := fun y v hy => (hoth y (fun e => by subst e; cases hy)).trans (h12k y v hy)
        have h13 : Hs ρ13 _ := Hs.cons hHS hlen
        have upE : ∀ p ∈ P2, p ∈ V13 ++ (V12 ++ (V11 ++ (V10 ++ (V9 ++ P2)))) := fun p hp => by simp only [List.mem_append]; exact .inr (.inr (.inr (.inr (.inr hp))))
        have hFn : t ∉ (gotOf cln ms1 ms2 (keys.take i) r.2 ++ pieceOf cln (ord.map (·.2)) t r.2 j).map (·.1) := fun hin => by
          rw [piece_self hondt hnj, List.append_nil] at hin
          obtain ⟨p, hp, e⟩ := List.mem_map.mp hin
          exact htn (e ▸ got_keys p hp)
        have hq5 : qs2.length ≤ 5 := by
          rw [← List.length_map (f := (·.1))]
          refine Nat.le_trans (nodup_len (s := nms) ok2.nd fun y hy => ?_) hn5
          by_cases hg : gotOf cln ms1 ms2 (keys.take i) y = []
          · have hp : pieceOf cln (ord.map (·.2)) t y j ≠ [] := fun e => (hqs2 y).mp hy (by rw [hg, e]; rfl)
            exact hnm t y (hordN ▸ piece_name hp)
          · obtain ⟨t', _, ht'⟩ := got_name hg
            exact hnm t' y ht'
        have hch : ∀ y, ∃ kv : List (Str × Value), (y ∈ qs2.map (·.1) → (ob2 y).IsDictOf (SK c) kv ∧ kv.map (·.1) = (gotOf cln ms1 ms2 (keys.take i) y ++ pieceOf cln (ord.map (·.2)) t y j).map (·.1) ∧ DatAll P2 (kv.map (·.2)) ((gotOf cln ms1 ms2 (keys.take i) y ++ pieceOf cln (ord.map (·.2)) t y j).map fun p => Dat.list (p.2.map Dat.int))) ∧ (y ∉ qs2.map (·.1) → kv = []) := fun y => by
          by_cases h : y ∈ qs2.map (·.1)
          · obtain ⟨kv, h1⟩ := hob2 y h
            exact ⟨kv, fun _ => h1, fun h' => absurd h h'⟩
          · exact ⟨[], fun h' => absurd h' h, fun _ => rfl⟩
        obtain ⟨kvf, hkvf⟩ := Classical.axiomOfChoice hch
        have hklen : ∀ y ∈ qs2.map (·.1), (kvf y).length ≤ 1000 := fun y hy => by
          have e := congrArg List.length ((hkvf y).1 hy).2.1
          rw [List.length_map, List.length_map, List.length_append] at e
          have a1 := got_len cln ms1 ms2 y (keys.take i)
          have a2 := piece_len cln (ord.map (·.2)) t y j
          rw [List.length_take] at a1
          omega
        have hkn : (kvf r.2).map (·.1) = (gotOf cln ms1 ms2 (keys.take i) r.2 ++ pieceOf cln (ord.map (·.2)) t r.2 j).map (·.1) ∧ DatAll P2 ((kvf r.2).map (·.2)) ((gotOf cln ms1 ms2 (keys.take i) r.2 ++ pieceOf cln (ord.map (·.2)) t r.2 j).map fun p => Dat.list (p.2.map Dat.int)) := by
          by_cases h : r.2 ∈ qs2.map (·.1)
          · exact ((hkvf r.2).1 h).2
          · have e0 : gotOf cln ms1 ms2 (keys.take i) r.2 ++ pieceOf cln (ord.map (·.2)) t r.2 j = [] := Classical.byContradiction fun h' => h ((hqs2 r.2).mpr h')
            rw [(hkvf r.2).2 h, e0]
            exact ⟨rfl, .nil⟩
        have hold : ord.length = (ord.map (·.2)).length := by rw [List.length_map]
        have hvsE := hvs2.mono upE
        refine ls_sdset (t := r.2) (x := t) (kv := kvf) (PP := IsD (.list ((sliceOf ns (ord.map (·.2)).length j).map Dat.int))) (topRead_of D.T).nolimit (monoD _) S13 ok2 (fun y hy => ⟨((hkvf y).1 hy).1, hklen y hy⟩) (fun y hy => (hkvf y).2 hy) (by omega) (by omega) (fun m cs C hm => ?_) (fun m cs C hm => ev_nameV (adl rfl (by decide) rfl hm (h13 _ _ rfl))) (fun m cs C hm => ev_nameD (adl rfl (by decide) rfl hm (h13 _ _ rfl)) (.str _ _)) (fun M' m cs C hm => ev_nameD (adl rfl (by decide) rfl hm (h13 _ _ rfl)) (.str _ _)) rfl rfl rfl rfl fun qs3 od3 ob3 v14 V14 k14 s14 hk14 S14 ok3 hlq3 hnames hobt hoth3 p14 => ?_
        · refine (ev_slice2 (lo := lo) (hi := lo + ln) (ds := (sortZ ns).map Dat.int) (ev_nameD (adl rfl (by decide) rfl hm (h13 _ _ rfl)) hvsE) (by rw [List.length_map]; omega) (ev_nameD (adl rfl (by decide) rfl hm (h13 _ _ rfl)) (.int _ _)) ((ev_add (b1 := 0) (b2 := 0) (ev_nameD (adl rfl (by decide) rfl hm (h13 _ _ rfl)) (.int (lo : Int) _)) (ev_nameD (adl rfl (by decide) rfl hm (h13 _ _ rfl)) (.int (ln : Int) _))).imp fun Y v h => by rw [Int.natCast_add]; exact h) fun _ _ => rfl).imp fun Y v h => ?_
          rw [Nat.add_sub_cancel_left, ← List.map_drop, ← List.map_take, hlo, hln, hdn, hen, hold] at h
          exact h
        · have upF : ∀ p ∈ P2, p ∈ V14 ++ (V13 ++ (V12 ++ (V11 ++ (V10 ++ (V9 ++ P2))))) := fun p hp => List.mem_append_right _ (upE p hp)
          refine wpAny_execs_nil ⟨.inl rfl, _, _, _, _, S14, upF, ((((h13.drop rfl).drop rfl).drop rfl).drop rfl).drop rfl, by omega, od3, qs3, ob3, rfl, ok3, fun q hq => (hlq3 q hq).elim (hlq2 q) id, fun x => ?_, fun x hx => ?_⟩
          · rw [hnames, hpcs]
            by_cases e : r.2 = x
            · subst e
              rw [if_pos rfl]
              refine ⟨fun _ h' => by simp at h', fun _ => ?_⟩
              split
              · assumption
              · exact List.mem_append_right _ List.mem_cons_self
            · rw [if_neg e, List.append_nil, ← hqs2]
              split
              · exact Iff.rfl
              · rw [List.mem_append, List.mem_singleton]
                exact ⟨fun h => h.resolve_right (Ne.symm e), .inl⟩
          · rw [hpcs]
            by_cases e : r.2 = x
            · subst e
              rw [if_pos rfl]
              have hnk : t ∉ (kvf r.2).map (·.1) := hkn.1 ▸ hFn
              rw [stored_new hnk] at hobt
              refine ⟨_, hobt, ?_, ?_⟩
              · rw [List.map_append, List.map_append, hkn.1]; rfl
              · rw [List.map_append, List.map_append (f := fun p : Str × List Int => Dat.list (p.2.map Dat.int))]
                exact (hkn.2.mono upF).append (.cons p14 .nil)
            · rw [if_neg e, List.append_nil, hoth3 x (Ne.symm e)]
              refine (hob2 x ?_).mono upF
              rw [hnames] at hx
              split at hx
              · exact hx
              · exact (List.mem_append.mp hx).resolve_right fun h => e (List.mem_singleton.mp h).symm
      · rintro ρ2 M2 P2 k8 s8 hsub2 ⟨hρ2, hk8, oa2, qs2, ob2, rfl, ok2, hlq2, hqs2, hob2⟩ S8
        rw [List.length_map] at hqs2 hob2
        have eo : ord.length = (ordN ms1 ms2 t).length := by rw [← hordN, List.length_map]
        rw [hordN, eo] at hqs2 hob2
        exact wpAny_execs_nil ⟨.inl rfl, _, _, _, _, S8, fun p hp => hsub2 p (List.mem_append_right _ (up6 p (List.mem_append_right _ (up3 p (up2 p hp))))), ((((hρ2.drop rfl).drop rfl).drop rfl).drop rfl).drop rfl, hk8, oa2, qs2, ob2, rfl, ok2, hlq2, fun x => by rw [hgs]; exact hqs2 x, fun x hx => by rw [hgs]; exact hob2 x hx⟩
  · rintro ρ' M' P' k' s' hsub ⟨hρ, hk', oa', qs, ob, rfl, ok, hlq, hqs, hob⟩ S'
    have e : kvs.length = keys.length := by rw [← hkk, List.length_map]
    rw [e, List.take_length] at hqs hob
    exact next oa' qs ob ρ' k' s' P' hρ hk' (fun p hp => hsub p (List.mem_append_right _ (List.mem_cons_of_mem _ hp))) ok hlq hqs hob S'
end

end
section
theorem inR1 {cs X P : Led} {p0 : Addr × Obj} : ∀ p ∈ cs, p ∈ p0 :: ((cs ++ X) ++ P) := fun _ hp => List.mem_cons_of_mem _ (List.mem_append_left _ (List.mem_append_left _ hp))
theorem rd_ccell {c : Cx} {R : Led} {m : Str → Option Value} {x : Str} {v : Value} {scope : Scope} {cl' : List (Str × Addr)} {env : Env} {C b : Addr} {o : Obj} (hk : (compEnvC scope cl' C env).scope.kind = .function) (hx : (compEnvC scope cl' C env).kindOf x = some .cell) (hd : (x == ("__debug__" : Str)) = false)
    (hc : cl'.lookup x = some b) (hm : (b, o) ∈ R) (ho : o.data = .cell (some v)) : Rd c R m (compEnvC scope cl' C env) x v :=
  fun s Z k Q pos hZ S q => lcf_cell S.news hc (hZ _ hm) ho q hk hx hd
theorem rdf {c : Cx} {R : Led} {m : Str → Option Value} {ρ : Str → Option Value} {cl : List (Str × Addr)} {cs : Led} {x : Str} {v : Value} {scope : Scope} {cl' : List (Str × Addr)} {env : Env} {C b : Addr} (hk : (compEnvC scope cl' C env).scope.kind = .function) (hx : (compEnvC scope cl' C env).kindOf x = some .cell) (hd : (x == ("__debug__" : Str)) = false)
    (hc : cl'.lookup x = some b) (hb : cl.lookup x = some b) (hR : ∀ p ∈ cs, p ∈ R) (H : CellsAre ρ cl cs) (hv : ρ x = some v) : Rd c R m (compEnvC scope cl' C env) x v := by
  obtain ⟨o, h1, h2⟩ := cells_at H hb
  exact rd_ccell hk hx hd hc (hR _ h1) (h2.trans (by rw [hv]))
section
variable {c : Cx} {R Y : Led} {m : Str → Option Value} {env : Env} {mean : ExcName → Option Value} {mg mb : Str → Option Value}
theorem ev_bytes {x : List UInt8} {kn : Nat} {pos : Pos} : Ev c R Y m 0 (eval (.Constant (.bytes x) kn pos) env) (IsD (.bytes x.toArray)) := by
  intro s Z U k Q _ _ _ S _ ret
  exact Constant_bytes (ret _ [] k s.heap _ (by omega) S.self Fresh.nil (.bytes _ _))
theorem pick_flat {T : Dat → Bool} {g : Dat → Dat} (ds : List Dat) : (ds.filterMap fun d => if T d = true then some (g d) else none) = (ds.filter T).map g := by
  induction ds with
  | nil => rfl
  | cons d ds ih =>
    rw [List.filterMap_cons, ih]
    cases h : T d <;> simp [h]
/-- a comprehension that picks and maps, without draws -/
theorem ev_compG {elt t0 i0 : Expr} {ifs : List Expr} {scope : Scope} {cl : List (Str × Addr)} {pos : Pos} {b0 : Nat} {ds : List Dat} {B : Dat → List (Str × Dat)} {T : Dat → Bool} {g : Dat → Dat}
    (hclos : closureFor scope env = pure cl) (hcell : ∀ y ∈ scope.names, y.2 ≠ .cell) (hkind : scope.kind = .function) (hnames : ∀ y ∈ scope.names, y.2 = .local → scope.names.lookup y.1 = some .local) (hs : ∀ x, foldedSetIterable i0 env x = pure x)
    (hi : EvI c R Y m b0 env i0 ds.length (ItemsD ds)) (hl : ds.length ≤ 1000) (tgt : ∀ d ∈ ds, Tgt c scope cl env t0 d (B d))
    (test : ∀ d ∈ ds, ∀ C oC m₂ Y', (∀ p ∈ Y, p ∈ Y') → LCg.NsObj oC m₂ → (∀ p ∈ B d, ∃ u, m₂ p.1 = some u ∧ DatIn Y' u p.2) → Ev c ((C, oC) :: R) Y' m 0 (testsT (compEnvC scope cl C env) ifs) (IsB (T d)))
    (elem : ∀ d ∈ ds, T d = true → ∀ C oC m₂ Y', (∀ p ∈ Y, p ∈ Y') → LCg.NsObj oC m₂ → (∀ p ∈ B d, ∃ u, m₂ p.1 = some u ∧ DatIn Y' u p.2) → Ev c ((C, oC) :: R) Y' m 0 (eval elt (compEnvC scope cl C env)) (IsD (g d))) :
    Ev c R Y m b0 (eval (.ListComp elt [⟨t0, i0, ifs, 0⟩] scope pos) env) (IsD (.list ((ds.filter T).map g))) := by
  refine ((ev_comp1 (b0 := b0) (b1 := 0) (b2 := 0) (NN := ds.length) (PN := fun es => es = ds) (PE := fun d => d ∈ ds) (B := B) (T := fun d b => b = T d) (S := fun d o => o = if T d = true then some (g d) else none) hclos hcell hkind hnames hs hi.x ?_ hl tgt test ?_ ?_).imp fun Y v ⟨es, ys, e, hr, h⟩ => ?_).more (by simp)
  · rintro es rfl
    exact ⟨Nat.le_refl _, fun d hd => hd⟩
  · intro d hd hT C oC m₂ Y' hs hC hB
    exact (elem d hd hT.symm C oC m₂ Y' hs hC hB).imp fun Y v h => ⟨g d, h, by rw [if_pos hT.symm]⟩
  · intro d hd hT
    rw [if_neg (by rw [← hT]; decide)]
  · subst e
    rw [runs_flat hr, pick_flat] at h
    exact h
theorem ev_clsver {e : Expr} {pos : Pos} (D : Deep c mean mg mb) (h : Ev c R Y m 0 (eval e env) (fun _ v => v = .ref 178))
    (he : eval (.Attribute e (Str.ofString "version") pos) env = (do
      let o ← eval e env
      standAt pos.atName
      let r ← holding [o] (getAttr o (Str.ofString "version") true)
      letTemporaryGo e o r
      pure r)) : Ev c R Y m 0 (eval (.Attribute e (Str.ofString "version") pos) env) (IsD (.int 0)) := by
  intro s Z U k Q hR hY hU S hk ret
  refine Attribute_any_ ?_ he
  refine h s Z U k _ hR hY hU S hk fun v V k' h' tk' hk' S' f' p' => ?_
  subst p'
  refine cls_val (K := KK c.w.params) (mc := .type "type") (a := .int 0 385) S'.F D.X (by kernel_rfl) (by kernel_rfl) (by kernel_rfl) (by kernel_rfl) ?_
  exact ret _ V k' h' _ hk' S'.toks f' (.int _ _)
/-- what one member was given -/
abbrev CCp (prs : List (Str × List Int)) (x : Str) : Led → Value → Prop := IsD (.list (((lookT prs x).getD []).map Dat.int))
abbrev IsPrs (c : Cx) (prs : List (Str × List Int)) : Led → Value → Prop := IsDict c (prs.map (·.1)) (CCp prs)
theorem prs_dict {P : Led} {b : Addr} {o : Obj} {prs : List (Str × List Int)} (hm : (b, o) ∈ P) (lo : (b == sysModules) = false) (h : PrsAt c P o prs) : IsPrs c prs P (.ref b) := by
  obtain ⟨kvs, h1, h2, h3⟩ := h
  refine ⟨b, o, kvs, rfl, hm, lo, h1, h2, fun x u hu => ?_⟩
  rcases lookT_val (t := x) h2 h3 with ⟨a, _⟩ | ⟨v, ns, a, b', d⟩
  · rw [a] at hu; cases hu
  · have e := Option.some.inj (a.symm.trans hu)
    show DatIn P u (.list (((lookT prs x).getD []).map Dat.int))
    rw [b', ← e]; exact d
/-- assignment.get(key, {}) -/
theorem ev_dget {o ke : Expr} {ap cp dp : Pos} {x : Str} {d : Addr} {od : Obj} {kvs : List (Str × Value)} {prs : List (Str × List Int)} {pl : Sem Bool} (hno : c.h₀.NoLimit) (hm : (d, od) ∈ R) (hod : od.IsDictOf (SK c) kvs) (lo : (d == sysModules) = false)
    (hv : ∀ u, valueAt kvs x = some u → IsPrs c prs Y u) (hnone : valueAt kvs x = none → prs = []) (ho : Ev c R Y m 0 (eval o env) (fun _ v => v = .ref d)) (hke : Ev c R Y m 0 (eval ke env) (IsD (.str x)))
    (hc : eval (.Call (.Attribute o (Str.ofString "get") ap) [ke, .Dict [] [] dp] [] cp) env = (do
      let ov ← eval o env
      standAt ap.atName
      let (f, first) ← holding [ov] (getMethod ov (Str.ofString "get") pl)
      callWith cp f first (backTo cp (starEach [ke, .Dict [] [] dp] env)) []))
    (hs : starEach [ke, .Dict [] [] dp] env = (false, eval ke env) :: starEach [.Dict [] [] dp] env) (hs2 : starEach [.Dict [] [] dp] env = (false, eval (.Dict [] [] dp) env) :: starEach [] env) :
    Ev c R Y m 0 (eval (.Call (.Attribute o (Str.ofString "get") ap) [ke, .Dict [] [] dp] [] cp) env) (IsPrs c prs) := by
  intro s Z U k Q hR hY hU S hk ret
  refine MethodCall_ ?_ hc
  refine ho s Z U k _ hR hY hU S hk fun v V k1 hp1 tk1 hk1 S1 f1 p1 => ?_
  subst p1
  refine kdg_method (knd := SK c) S1.news (List.mem_append_right _ (hR _ hm)) hod ?_
  refine callWith_method1 (first := [.ref d]) ?_ hs rfl
  refine wpAny_items_cons ?_ hs
  have up : ∀ p ∈ V ++ U, p ∈ V ++ Z := fun p hp => (List.mem_append.mp hp).elim (List.mem_append_left _) fun h => List.mem_append_right _ (hU p h)
  refine hke _ (V ++ Z) (V ++ U) k1 _ (fun p hp => List.mem_append_right _ (hR p hp)) (fun p hp => List.mem_append_right _ (hY p hp)) up S1 (by omega) fun u V2 k2 hp2 tk2 hk2 S2 f2 p2 => ?_
  obtain ⟨tx, rfl⟩ := dstr p2
  refine wpAny_items_cons ?_ hs2
  obtain ⟨hd, hh, N⟩ := S2.hd
  refine newDict_K S2.F N hno fun g h' og F' N' l glo hog _ _ _ => ?_
  refine wpAny_items_nil ?_
  show wpAny _ _ (call (.builtin "dict.get") [.ref d, .str x tx, .ref g]) _ _ _
  have hdm : (d, od) ∈ (g, og) :: hd :: (V2 ++ (V ++ Z)) := List.mem_cons_of_mem _ (List.mem_cons_of_mem _ (List.mem_append_right _ (List.mem_append_right _ (hR _ hm))))
  refine kdg_get2 (knd := SK c) N' hdm hod lo (strKind_is _ _ _ _) _ rfl ?_
  obtain ⟨S3, f3⟩ := S2.push (V := [(g, og)]) (tk' := tk2 + 1) F' hh N' (fun p hp q hq => by rw [List.mem_singleton.mp hp]; exact Nat.ne_of_lt (l q hq))
  refine ret _ ([(g, og)] ++ (V2 ++ V)) k2 h' _ (by omega) (by rw [List.append_assoc, List.append_assoc]; exact S3) ((f1.app f2).app (W := [(g, og)]) (by rw [List.append_assoc]; exact f3)) ?_
  cases hx : valueAt kvs x with
  | some u =>
    exact monoDict (fun x => monoD _) _ _ _ (fun p hp => List.mem_append_right _ (hY p hp)) (hv u hx)
  | none =>
    rw [hnone hx]
    exact ⟨g, og, [], rfl, List.mem_cons_self, glo, hog, rfl, fun x u hu => by cases hu⟩
/-- a ConsumerProtocolAssignment -/
theorem ec_cpa {tv tu : Tok} {v : Value} {prs : List (Str × List Int)} (D : Deep c mean mg mb) (hv : DatIn Y v (.list (prs.map dPair))) : Ev c R Y m 0 (call (.ref 66) [.int 0 tv, v, .bytes #[] tu]) (IsRes prs) := by
  intro s Z U k Q _ hY hU S hb ret
  obtain ⟨ap, vs, n, rfl, hm, hall⟩ := dlist hv
  obtain ⟨dp, un, gd, cn, cs, a, ccd, cl, outer, A₀, base, e, B, hk, hd, hu⟩ := D.deep
  obtain ⟨hd0, hh, N⟩ := S.hd
  rw [e]
  refine cpa_spec B S.F D.X N D.T hk (by omega) (by omega) fun x dx h1 h2 h3 t1 t2 t3 tv' tu' n h' tk' F' N' l1 l2 => ?_
  exact Ev.made2 (P := IsRes prs) S hh F' N' l1 l2 ⟨x, dx, h1, h2, h3, t1, t2, t3, tv', ap, tu', n, rfl, List.mem_cons_self, List.mem_cons_of_mem _ List.mem_cons_self, hv.mono fun p hp => List.mem_cons_of_mem _ (List.mem_cons_of_mem _ (hY p hp))⟩ ret
end

end
section
section
variable {c : Cx} {fa : Addr} {cd : Value} {mean : ExcName → Option Value} {mg mb : Str → Option Value} {s0 s : Shared} {ρ : Str → Option Value} {P : Led} {k : Int}
abbrev A3 (clu : Addr) (vm : Value) (d asn pa : Addr) : List (Str × Value) := (Str.ofString "protocol_assignment", .ref pa) :: A2 clu vm d asn
def gPair (prs : List (Str × List Int)) : Dat → Dat
  | .str t => dPair (t, (lookT prs t).getD [])
  | d => d
/-- the answers -/
theorem asgD {clu d asn : Addr} {vm : Value} {oa : Obj} {qs : List (Str × Addr)} {ob : Str → Obj} {K : Led} {mems : List Mem} {F : Str → List (Str × List Int)} {Q : Flow → Shared → Prop} (D : Deep c mean mg mb) (S : LS c (AC c.L) s0 ρ [] (DM asn oa qs ob K) P k s) (hl : Hs ρ (A2 clu vm d asn)) (hk : k ≤ 890) (hms : IsMems mems P vm)
    (ok : DOk c asn oa qs) (hlq : ∀ q ∈ qs, (q.2 == sysModules) = false) (hqs : ∀ x, x ∈ qs.map (·.1) ↔ F x ≠ []) (hob : ∀ x ∈ qs.map (·.1), PrsAt c P (ob x) (F x)) (hnn : (mems.map (·.name)).Nodup) (hm5 : mems.length ≤ 5) (hF5 : ∀ x, (F x).length ≤ 5)
    (next : ∀ pa k' s' ρ' P', k' ≤ k → (∀ p ∈ P, p ∈ P') → IsDict c (mems.map (·.name)) (fun x => IsRes (toldOf (F x))) P' (.ref pa) → LS c (AC c.L) s0 ρ' [] K P' k' s' → Q (.ret (.ref pa)) s') : WA c fa cd aw5 Q s := by
  obtain ⟨P1, up1, hown, S1⟩ := S.freezeDM
  have S2 : LS c (AC c.L) s0 ρ [] K ((asn, oa) :: P1) k s := LS.freeze (pre := []) (post := K) S1
  have hvP : ∀ x u, valueAt (qs.map pKV) x = some u → IsPrs c (F x) ((asn, oa) :: P1) u := fun x u hu => by
    obtain ⟨b, hb, rfl⟩ := pKV_at hu
    have hx : x ∈ qs.map (·.1) := List.mem_map.mpr ⟨_, hb, rfl⟩
    exact prs_dict (List.mem_cons_of_mem _ (hown (x, b) hb)) (hlq _ hb) ((hob x hx).mono fun p hp => List.mem_cons_of_mem _ (up1 p hp))
  have hvN : ∀ x, valueAt (qs.map pKV) x = none → F x = [] := fun x hx => Classical.byContradiction fun h => by
    obtain ⟨u, hu⟩ := valueAt_mem (kvs := qs.map pKV) (by rw [pKV_names]; exact (hqs x).mpr h)
    rw [hx] at hu; cases hu
  delta aw5 sta5
  refine ls_own S2 rfl (ac_nodup _) (haldl rfl rfl) rfl (PO := fun b o => (b == sysModules) = false ∧ o.IsDictOf (SK c) []) (fun s m Z Q F N ret => ?_) fun pa po s3 S3 hlo => ?_
  · exact newDict_K F N (topRead_of D.T).nolimit fun d h' o F' N' l lo a b e f => ret d o h' s.toks F' N' l ⟨lo, a⟩
  obtain ⟨hlo, hpo⟩ := hlo
  have h3 := hl.add (x := Str.ofString "protocol_assignment") (v := .ref pa)
  have upP : ∀ p ∈ P, p ∈ (asn, oa) :: P1 := fun p hp => List.mem_cons_of_mem _ (up1 p hp)
  have hms3 := monoMems mems _ _ _ upP hms
  delta aw6 sta6
  refine ls_forG (b := 0) (ι := Unit) (PN := fun _ => True) (len := fun _ => mems.length) (PI := fun _ i Y v => ∃ mm, mems[i]? = some mm ∧ MemAt Y v mm) S3 rfl (ac_nodup _) (haldl rfl rfl) (fun _ => rfl) (fun m cs C hm => em_mems D.hh (ev_name (adl rfl (by decide) rfl hm (h3 _ _ rfl)) (monoMems _) hms3)) (by omega) fun _ V k1 _ hk1 => ?_
  refine ⟨fun i ρ' M' P' k' => Hs ρ' (A3 clu vm d asn pa) ∧ k' ≤ k ∧ ∃ po kvs, M' = (pa, po) :: K ∧ po.IsDictOf (SK c) kvs ∧ kvs.map (·.1) = (mems.map (·.name)).take i ∧ ∀ x u, valueAt kvs x = some u → IsRes (toldOf (F x)) P' u,
    ⟨h3, by omega, po, [], rfl, hpo, rfl, fun x u hu => by cases hu⟩, ?_, ?_⟩
  · rintro i v o I ρ' M' P' k' s' hi ⟨mm, hmm, hv⟩ hsub ⟨hρ, hk', po, kvs, rfl, hpo, hkn, hval⟩ S'
    have h4 := hρ.add (x := Str.ofString "member") (v := v)
    have hv' : MemAt P' v mm := hv.mono hsub
    have hasn : (asn, oa) ∈ P' := hsub _ (List.mem_append_right _ List.mem_cons_self)
    have mid : ∀ {P2 : Led} {R : Led} {m : Str → Option Value} {ρx : Str → Option Value} {p1 p2 : Pos}, (∀ x, (AC c.L).lookup x = none → m x = ρx x) → ρx (Str.ofString "member") = some v → (∀ p ∈ P', p ∈ P2) → Ev c R P2 m 0 (eval (.Attribute (.Name (Str.ofString "member") p1) (Str.ofString "member_id") p2) (AE c fa cd)) (IsD (.str mm.name)) := by
      intro P2 R m ρx p1 p2 hm hx hP
      exact ev_attr (C := 87) (at_ := none) D.toTops (ev_name (adl rfl (by decide) rfl hm hx) (monoAttr (monoD _)) (mem_name (hv'.mono hP))) (by kernel_rfl) (by kernel_rfl) (by kernel_rfl) (by kernel_rfl) rfl
    refine ls_assign S' rfl (ac_nodup _) (haldc rfl rfl) rfl (b := 0) (PP := IsPrs c (F mm.name)) (fun m cs C hm => ?_) (by omega) fun vg V4 k4 s4 hk4 S4 p4 => ?_
    · exact ev_dget (kvs := qs.map pKV) (topRead_of D.T).nolimit (List.mem_append_right _ hasn) ok.od ok.lo (fun u hu => monoDict (fun x => monoD _) _ _ _ (fun p hp => hsub p (List.mem_append_right _ hp)) (hvP mm.name u hu)) (hvN mm.name) (ev_nameV (adl rfl (by decide) rfl hm (h4 _ _ rfl))) (mid hm (h4 _ _ rfl) fun _ h => h) rfl rfl rfl
    have h5 := h4.add (x := Str.ofString "given") (v := vg)
    have hmn : (mems.map (·.name))[i]? = some mm.name := by rw [List.getElem?_map, hmm]; rfl
    have hnew : mm.name ∉ kvs.map (·.1) := by
      rw [hkn]
      intro hin
      obtain ⟨j, hj, e⟩ := List.mem_take_iff_getElem.mp hin
      obtain ⟨hil, ei⟩ := List.getElem?_eq_some_iff.mp hmn
      have := (List.getElem_inj (xs := mems.map (·.name)) hnn (i := j) (j := i) (h₀ := by omega) (h₁ := hil)).mp (by rw [e, ei])
      omega
    refine ls_setitem (pre := []) (post := K) (b := pa) (od := po) (kvs := kvs) (be := 0) (x := mm.name) (PP := IsRes (toldOf (F mm.name))) S4 (fun m cs C hm => ?_) (fun m cs C hm => ev_nameV (adl rfl (by decide) rfl hm (h5 _ _ rfl))) (fun m cs C hm => mid hm (h5 _ _ rfl) fun p hp => List.mem_append_right _ hp) (by omega) (monoRes _) hpo (by have e := congrArg List.length hkn; rw [List.length_map, List.length_take, List.length_map] at e; omega) rfl fun v5 V5 k5 od5 s5 hk5 S5 hod5 p5 => ?_
    · have hF := hF5 mm.name
      refine ev_callK (b1 := 0) (b2 := 0) D.X (by kernel_rfl) (f := .ref 66) (rd_glob D.toTops (by kernel_rfl) rfl rfl (by decide)) (ea_cons (b1 := 0) (b2 := 0) (monoD (.int 0)) (ev_clsver D (ev_nameV (adl rfl (by decide) rfl hm (h5 _ _ rfl))) rfl) (ea_cons (b1 := 0) (b2 := 0) (monoD (.list ((toldOf (F mm.name)).map dPair))) ?_ (ea1 (monoD (.bytes #[])) ev_bytes rfl) rfl) rfl) (fun vs Y' hs pv => ?_) rfl rfl
      · have e : (toldOf (F mm.name)).map dPair = ((((jsrt ltS ((F mm.name).map (·.1))).map Dat.str).filter fun _ => true).map (gPair (F mm.name))) := by
          rw [List.filter_eq_self.mpr (fun _ _ => rfl), List.map_map]
          unfold toldOf
          rw [List.map_map]; rfl
        rw [e]
        refine ev_compG (B := fun d => [(Str.ofString "topic", d)]) rfl (by decide) rfl (by decide) (fun _ => rfl) (ei_list D.hh (ev_callB (b1 := 0) (b2 := 0) (rd_built D.toTops (by kernel_rfl) (by boot_fast) (by decide) rfl rfl (by decide)) (ea1 (monoDict (c := c) fun x => monoD _) (ev_name (adc rfl (by decide) rfl C (h5 _ _ rfl)) (monoDict (c := c) fun x => monoD _) p4) rfl) (fun vs Y' hs pv => ?_) rfl rfl)) (by rw [List.length_map, jsrt_len ltS_ok (by rw [List.length_map]; exact hF), List.length_map]; omega) (fun d _ => tgt_name rfl fun _ => rfl) (fun d hd C' oC m₂ Y' hs hC hB => ev_tests0) ?_
        · obtain ⟨v, rfl, hv⟩ := pv
          exact ec_sortD D.hh hv (by rw [List.length_map]; exact hF)
        · intro dd hd _ C' oC m₂ Y' hs hC hB
          obtain ⟨t, ht, rfl⟩ := List.mem_map.mp hd
          obtain ⟨u, hu1, hu2⟩ := hB _ List.mem_cons_self
          have htk : t ∈ (F mm.name).map (·.1) := (jsrt_perm ltS_ok (by rw [List.length_map]; exact hF)).subset ht
          exact ev_tuple2 (b1 := 0) (b2 := 0) (ev_nameD (rd_own (x := Str.ofString "topic") rfl rfl (by decide) List.mem_cons_self hC hu1) hu2) (ev_ditem (b1 := 0) (b2 := 0) (ks := (F mm.name).map (·.1)) (C := CCp (F mm.name)) (x := t) (monoD _) (ev_name (rdf rfl rfl (by decide) rfl rfl inR1 C (h5 _ _ rfl)) (monoDict (c := c) fun x => monoD _) (monoDict (c := c) (fun x => monoD _) _ _ _ hs p4)) (ev_nameD (rd_own (x := Str.ofString "topic") rfl rfl (by decide) List.mem_cons_self hC hu1) hu2) htk fun _ _ => rfl) rfl rfl
      · obtain ⟨v1, us, rfl, q1, v2, us2, rfl, q2, v3, rfl, q3⟩ := pv
        obtain ⟨tt1, rfl⟩ := dint q1
        obtain ⟨tt3, rfl⟩ := dbytes q3
        exact ec_cpa D q2
    · rw [stored_new hnew] at hod5
      refine wpAny_execs_nil ⟨rfl, _, _, _, _, S5, fun p hp => List.mem_append_right _ (List.mem_append_right _ hp), (h5.drop rfl).drop rfl, by omega, od5, _, rfl, hod5, by rw [List.map_append, hkn, List.take_add_one, hmn]; rfl, fun x u hu => ?_⟩
      rw [valueAt_snoc hnew] at hu
      by_cases e : x = mm.name
      · subst e
        rw [if_pos rfl] at hu
        cases hu
        exact p5
      · rw [if_neg e] at hu
        exact (hval x u hu).mono fun p hp => List.mem_append_right _ (List.mem_append_right _ hp)
  · rintro ρ' M' P' k' s' hsub ⟨hρ, hk', po, kvs, rfl, hpo, hkn, hval⟩ S'
    rw [← List.length_map (f := (·.name)), List.take_length] at hkn
    delta aw7 sta7
    refine ls_ret (b := 0) (PP := fun _ v => v = .ref pa) S' (fun m cs C hm => ev_nameV (adl rfl (by decide) rfl hm (hρ _ _ rfl))) (by omega) fun v V' k2 s2 hk2 S'' e => ?_
    subst e
    have S6 := LS.freeze (pre := []) (post := K) S''
    exact next pa k2 s2 ρ' _ (by omega) (fun p hp => List.mem_cons_of_mem _ (List.mem_append_right _ (hsub p (List.mem_append_right _ (upP p hp))))) ⟨pa, po, kvs, rfl, List.mem_cons_self, hlo, hpo, hkn, fun x u hu => (hval x u hu).mono fun p hp => List.mem_cons_of_mem _ (List.mem_append_right _ hp)⟩ S6
end

end
section
theorem look_some {x : Str} {l : List (Str × Addr)} (h : x ∈ l.map (·.1)) : (l.lookup x).isSome = true := by
  induction l with
  | nil => cases h
  | cons p l ih =>
    obtain ⟨n, b⟩ := p
    rw [List.lookup_cons]
    by_cases e : x = n
    · subst e; rw [beq_self_eq_true]; rfl
    · rw [beq_eq_false_iff_ne.mpr e]
      rw [List.map_cons] at h
      exact ih ((List.mem_cons.mp h).resolve_left e)
theorem cells_cong {ρ ρ' : Str → Option Value} {l : List (Str × Addr)} {zs : Led} (h : ∀ x ∈ l.map (·.1), ρ x = ρ' x) (C : CellsAre ρ l zs) : CellsAre ρ' l zs := by
  induction C with
  | nil => exact .nil
  | @cons n' c' o' cs' cells' hd' _ ih =>
    exact .cons (hd'.trans (by rw [h n' (by simp)])) (ih fun x hx => h x (by rw [List.map_cons]; exact List.mem_cons_of_mem _ hx))
/-- all phases, in the callee's frame -/
theorem asg_run {c : Cx} {fa : Addr} {cd : Value} {mean : ExcName → Option Value} {mg mb : Str → Option Value} {s0 s : Shared} {ρ : Str → Option Value} {P K : Led} {k : Int} {clu : Addr} {vm : Value} {cln : List (Str × List Int)} {mems ms1 ms2 : List Mem} {tops : List Str} {Q : Flow → Shared → Prop}
    (D : Deep c mean mg mb) (S : LS c (AC c.L) s0 ρ [] K P k s) (hl : Hs ρ (A0 clu vm)) (hk : k ≤ 890) (hclu : IsClu c cln P (.ref clu)) (hms : IsMems mems P vm)
    (hso : mems = ms1 ++ ms2) (h1s : ∀ mm ∈ ms1, ∃ g, mm.own = some g) (h2s : ∀ mm ∈ ms2, mm.own = none) (hnn : (mems.map (·.name)).Nodup) (hm5 : mems.length ≤ 5) (htop : ∀ mm ∈ mems, ∀ t ∈ mm.topics, t ∈ tops) (ht5 : tops.length ≤ 5) (hr5 : ∀ t, (rowsOf mems t).length ≤ 5) (hrn : ∀ t, ((rowsOf mems t).map (·.2)).Nodup) (hc7 : ∀ t ns, lookT cln t = some ns → ns.length ≤ 7)
    (next : ∀ pa keys k' s' ρ' P', k' ≤ k → (∀ p ∈ P, p ∈ P') → keys.Nodup → (∀ t, rowsOf mems t ≠ [] ↔ t ∈ keys) → IsDict c (mems.map (·.name)) (fun x => IsRes (toldOf (gotOf cln ms1 ms2 keys x))) P' (.ref pa) → LS c (AC c.L) s0 ρ' [] K P' k' s' → Q (.ret (.ref pa)) s') : WA c fa cd aw0 Q s := by
  refine asgA D S hl hk hms htop ht5 hr5 hm5 fun d od qs ob ρ1 k1 s1 P1 hl1 hk1 up1 ok1 hqs1 hob1 S1 => ?_
  refine asgB D S1 hl1 (by omega) ok1 hqs1 hob1 hso h1s h2s htop ht5 hr5 fun asn oa od2 kvs ρ2 k2 s2 P2 hl2 hk2 up2 loa hoa hod2 hkk hval S2 => ?_
  have h5t : ∀ t, (rowsOf ms1 t).length + (rowsOf ms2 t).length ≤ 5 := fun t => by
    have := hr5 t
    rw [hso, rowsOf_app, List.length_append] at this
    exact this
  have hperm : ∀ t, (ordT ms1 ms2 t).Perm (rowsOf mems t) := fun t => by
    rw [hso, rowsOf_app]
    exact ord_perm h1s (h5t t)
  have hq5 : (qs.map (·.1)).length ≤ 5 := by
    refine Nat.le_trans (nodup_len (s := tops) ok1.nd fun y hy => ?_) ht5
    have hne := (hqs1 y).mp hy
    rw [← List.take_length (l := mems)] at hne
    obtain ⟨mm', hmm', ht'⟩ := rowsOf_top hne
    exact htop mm' (List.mem_of_mem_take hmm') _ ht'
  have up12 : ∀ p ∈ P, p ∈ P2 := fun p hp => up2 p (up1 p hp)
  refine asgC (nms := mems.map (·.name)) D S2 hl2 (by omega) loa hoa ok1.lo hod2 hkk ok1.nd hq5 hval (monoClu cln _ _ _ up12 hclu) (fun t => ((hperm t).map _).symm.nodup (hrn t)) (fun t => by rw [(hperm t).length_eq]; exact hr5 t) (fun t ht h => (hqs1 t).mp ht (List.length_eq_zero_iff.mp (by rw [← (hperm t).length_eq, h]; rfl))) hc7 (fun t x hx => by rw [hso]; exact ord_name h1s (h5t t) hx) (by rw [List.length_map]; exact hm5) fun oa3 qs3 ob3 ρ3 k3 s3 P3 hl3 hk3 up3 ok3 hlq3 hqs3 hob3 S3 => ?_
  refine asgD D S3 hl3 (by omega) (monoMems _ _ _ _ (fun p hp => up3 p (up12 p hp)) hms) ok3 hlq3 hqs3 hob3 hnn hm5 (fun x => Nat.le_trans (got_len cln ms1 ms2 x _) hq5) fun pa k4 s4 ρ4 P4 hk4 up4 hres S4 => ?_
  exact next pa (qs.map (·.1)) k4 s4 ρ4 P4 (by omega) (fun p hp => up4 p (up3 p (up12 p hp))) ok1.nd (fun t => (hqs1 t).symm) hres S4
set_option maxRecDepth 100000 in
set_option maxHeartbeats 8000000 in
theorem asg_ev {c : Cx} {mean : ExcName → Option Value} {mg mb : Str → Option Value} {s : Shared} {m : Str → Option Value} {Z U K : Led} {k : Int} {clu ml : Addr} {cln : List (Str × List Int)} {mems ms1 ms2 : List Mem} {tops : List Str} {Q E : Value → Shared → Prop}
    (D : Deep c mean mg mb) (hdd : c.A.depth + 20 < recursionLimit) (huu : c.A.units + 200 < cLine) (S : St c m Z k s) (hZ : ∀ p ∈ Z, p ∈ K ∨ p ∈ U) (hKZ : ∀ p ∈ K, p ∈ Z) (hUZ : ∀ p ∈ U, p ∈ Z) (ndK : (K.map (·.1)).Nodup) (djK : ∀ p ∈ U, ∀ q ∈ K, q.1 ≠ p.1) (hk : k ≤ 890) (hclu : IsClu c cln U (.ref clu)) (hms : IsMems mems U (.ref ml))
    (hso : mems = ms1 ++ ms2) (h1s : ∀ mm ∈ ms1, ∃ g, mm.own = some g) (h2s : ∀ mm ∈ ms2, mm.own = none) (hnn : (mems.map (·.name)).Nodup) (hm5 : mems.length ≤ 5) (htop : ∀ mm ∈ mems, ∀ t ∈ mm.topics, t ∈ tops) (ht5 : tops.length ≤ 5) (hr5 : ∀ t, (rowsOf mems t).length ≤ 5) (hrn : ∀ t, ((rowsOf mems t).map (·.2)).Nodup) (hc7 : ∀ t ns, lookT cln t = some ns → ns.length ≤ 7)
    (ret : ∀ pa V keys k' h' tk', k' ≤ k → St c m (V ++ Z) k' { s with heap := h', toks := tk' } → Fresh V Z → keys.Nodup → (∀ t, rowsOf mems t ≠ [] ↔ t ∈ keys) → IsDict c (mems.map (·.name)) (fun x => IsRes (toldOf (gotOf cln ms1 ms2 keys x))) (V ++ U) (.ref pa) → Q (.ref pa) { s with heap := h', toks := tk' }) :
    codeAny (model PRG c.w) c.A (.call (.ref 152) ⟨[.ref 178, .ref clu, .ref ml], []⟩) (fun r s' => match r with | .ok (.ret v) => Q v s' | .ok _ => False | .error e => E e s') s := by
  obtain ⟨dp, un, gd, cn, cs, a, ccd, cl, outer, A₀, base, eA, B, hkk, hd, hu⟩ := D.deep
  have hscr := D.script
  obtain ⟨w, A, h₀, L, hand, sc⟩ := c
  obtain ⟨X, T⟩ := D.toTops
  dsimp only at eA B X T S ret hdd huu hscr ⊢
  subst eA
  have hdd : dp + 20 < recursionLimit := hdd
  have huu : un + 200 < cLine := huu
  obtain ⟨hd0, hh, N⟩ := S.hd
  have oh := S.N.2
  have k0 := S.k0
  have F := S.F
  dsimp only at F N oh
  obtain ⟨R, hR⟩ : ∃ R, R = hd0 :: Z := ⟨_, rfl⟩
  rw [← hR] at N
  revert X
  show (KK w.params).In h₀ → codeAny (model PySem.Challenge.rw_je0013_01.row.prog w) _ _ _ _
  k_fill; intro X
  k_dflt (refine' code_defC ?k1 ?k2 ?k3 ?k4 ?k5 ?kA ?kF ?kK ?k6 ?k7 ?k8 ?k9 ?kB ?kD ?_ ?c2 ?c3 ?c4; (case kA => exact rfl); (case kF => exact rfl); (case kK => assumption); (case k1 => k_asm); (case k2 => k_asm); (case k3 => k_asm); (case k4 => k_asm); (case k5 => k_asm); (case k6 => k_is); (case k7 => k_is); (case k8 => ktr_room); (case k9 => exact BindsTo.of_eq rfl); (case kB => exact rfl); (case kD => decide +kernel); (case c2 => exact rfl); (case c3 => exact rfl); (case c4 => exact rfl); k_whole; intro g' L' h' tk' cells' FG' F' N' Y' B' X' T' l1; k_cells Y'; (try simp only [List.cons_append, List.nil_append] at N'); (try dsimp only); (try k_fold))
  rename_i oc hoc
  refine wpAny_noRaise ?_
  obtain ⟨mF, F', m1, m2, m3⟩ : ∃ mF, Fr g' L' h' mF ∧ mF (Str.ofString "cls") = some (.ref 178) ∧ mF (Str.ofString "cluster") = some (.ref clu) ∧ mF (Str.ofString "members") = some (.ref ml) := ⟨_, F', rfl, rfl, rfl⟩
  obtain ⟨ρ0, hoc⟩ : ∃ ρ0 : Str → Option Value, oc.data = .cell (ρ0 (Str.ofString "given")) := ⟨_, hoc⟩
  subst hR
  obtain ⟨t, n, rfl⟩ := hh
  have hscr' : ∃ vs ns, g'.IsList sc (List.toArray vs) ∧ IntsAre vs ns ∧ ns.length ≤ 63 := hscr.imp fun vs ⟨ns, ⟨o, h1, h2⟩, h3⟩ => ⟨ns, ⟨o, FG'.keep _ _ h1, h2⟩, h3⟩
  have C0 : CellsAre ρ0 (AC L') [(L' + 1, oc)] := .cons hoc .nil
  refine asg_run (c := ⟨w, _, g', L', hand, sc⟩) (fa := 152) (cd := .ref 151) (s0 := s) (ρ := fun x => if ((AC L').lookup x).isSome = true then ρ0 x else mF x) (P := U) (K := K) (k := k) (clu := clu) (vm := .ref ml) (mean := mean) (mg := mg) (mb := mb) { X := X', T := T', deep := ⟨_, _, _, _, _, _, _, _, _, _, _, rfl, B', rfl, by omega, by omega⟩, script := hscr' }
    ⟨mF, [(L' + 1, oc)], h', tk', rfl, ⟨F', ⟨⟨t, n, jsub N' fun p hp => ?_⟩, fun p hp => ?_⟩, k0⟩, cells_cong (fun x hx => (if_pos (look_some hx)).symm) C0, fun x hx => (if_neg (by rw [hx]; decide)).symm, ?_, fun p hp q hq => ?_⟩
    (Hs.cons (Hs.cons (Hs.cons (fun x v h => by cases h) ?_) ?_) ?_) hk hclu hms hso h1s h2s hnn hm5 htop ht5 hr5 hrn hc7 fun pa keys k2 s2 ρ2 P2 hk2 up2 hkn hki hres S2 => ?_
  · simp only [List.mem_cons, List.mem_append, List.nil_append, List.not_mem_nil, or_false] at hp ⊢
    rcases hp with h | (h | h) | h
    · exact .inr (.inl h)
    · exact .inl h
    · exact .inr (.inr (hKZ p h))
    · exact .inr (.inr (hUZ p h))
  · simp only [List.mem_cons, List.mem_append, List.nil_append, List.not_mem_nil, or_false] at hp
    rcases hp with (h | h) | h
    · rw [h]; exact (Nat.ne_of_lt (Nat.lt_succ_of_lt (l1 _ List.mem_cons_self))).symm
    · exact oh p (hKZ p h)
    · exact oh p (hUZ p h)
  · rw [List.nil_append]
    refine List.nodup_cons.mpr ⟨fun hin => ?_, ndK⟩
    obtain ⟨q, hq, e⟩ := List.mem_map.mp hin
    exact absurd e (Nat.ne_of_lt (Nat.lt_succ_of_lt (l1 q (List.mem_cons_of_mem _ (hKZ q hq)))))
  · simp only [List.mem_cons, List.mem_append, List.nil_append, List.not_mem_nil, or_false] at hq
    rcases hq with h | h
    · rw [h]; exact (Nat.ne_of_lt (Nat.lt_succ_of_lt (l1 p (List.mem_cons_of_mem _ (hUZ p hp))))).symm
    · exact djK p hp q h
  · exact m3
  · exact m2
  · exact m1
  obtain ⟨m9, cs9, h9, tk9, rfl, St9, C9, hm9, nd9, dj9⟩ := S2
  obtain ⟨⟨t9, n9, N9⟩, o9⟩ := St9.N
  obtain ⟨W, hW⟩ : ∃ W, W = P2.filter fun p => !(U.map (·.1)).contains p.1 := ⟨_, rfl⟩
  have cover : ∀ p ∈ P2, p ∈ W ∨ p ∈ U := fun p hp => by
    by_cases h : p.1 ∈ U.map (·.1)
    · right
      obtain ⟨r, hr, e⟩ := List.mem_map.mp h
      have e1 := (N9 p (List.mem_cons_of_mem _ (List.mem_append_right _ hp))).1
      have e2 := (N9 r (List.mem_cons_of_mem _ (List.mem_append_right _ (up2 r hr)))).1
      rw [e, e1] at e2
      have : p = r := Prod.ext e.symm (Option.some.inj e2)
      rw [this]; exact hr
    · left
      rw [hW]
      exact List.mem_filter.mpr ⟨hp, by simpa using h⟩
  have wP : ∀ p ∈ W, p ∈ P2 := fun p hp => by rw [hW] at hp; exact (List.mem_filter.mp hp).1
  have wU : ∀ p ∈ W, ∀ r ∈ U, r.1 ≠ p.1 := fun p hp r hr e => by
    rw [hW] at hp
    have := (List.mem_filter.mp hp).2
    simp only [Bool.not_eq_true', List.contains_eq_mem, decide_eq_false_iff_not] at this
    exact this (e ▸ List.mem_map.mpr ⟨r, hr, rfl⟩)
  have memZ : ∀ p ∈ (hand, listOf #[.ref sc, .int k2 t9] n9) :: (W ++ Z), p ∈ (hand, listOf #[.ref sc, .int k2 t9] n9) :: ((cs9 ++ ([] ++ K)) ++ P2) := fun p hp => by
    rcases List.mem_cons.mp hp with h | h
    · exact h ▸ List.mem_cons_self
    · refine List.mem_cons_of_mem _ ?_
      rcases List.mem_append.mp h with h | h
      · exact List.mem_append_right _ (wP p h)
      · rcases hZ p h with h | h
        · exact List.mem_append_left _ (List.mem_append_right _ h)
        · exact List.mem_append_right _ (up2 p h)
  refine ⟨L', _, _, St9.F, jsub N9 memZ, fun F2 N2 => ?_⟩
  refine ret pa W keys k2 h9 tk9 hk2 ⟨F2, ⟨⟨t9, n9, N2⟩, fun p hp => ?_⟩, St9.k0⟩ (fun p hp q hq => ?_) hkn hki (monoDict (fun x => monoRes _) _ _ _ (fun p hp => (cover p hp).elim (List.mem_append_left _) (List.mem_append_right _)) hres)
  · rcases List.mem_append.mp hp with h | h
    · exact o9 p (List.mem_append_right _ (wP p h))
    · exact oh p h
  · rcases hZ q hq with h | h
    · exact dj9 p (wP p hp) q (List.mem_append_right _ h)
    · exact wU p hp q h

end
section
set_option maxRecDepth 100000 in
set_option maxHeartbeats 8000000 in
theorem ls_told {c : Cx} {cn : Str} {sc : Scope} {a : Addr} {ccd : Value} {cl : List (Str × Addr)} {s0 s : Shared} {ρ : Str → Option Value} {P : Led} {k : Int} {mean : ExcName → Option Value} {mg mb : Str → Option Value}
    {rn : Str} {rp ap cp : Pos} {e1 e2 : Expr} {b1 b2 : Nat} {cln : List (Str × List Int)} {mems ms1 ms2 : List Mem} {tops : List Str} {Q : Value → Shared → Prop} {pl : Sem Bool}
    (S : LS c cl s0 ρ [] [] P k s) (D : Deep c mean mg mb) (hdd : c.A.depth + 20 < recursionLimit) (huu : c.A.units + 200 < cLine) (hr : ∀ R m, Rd c R m (envX cn sc c.L a ccd cl) rn (.ref 178))
    (h1 : EvL c cl ρ [] [] P b1 (eval e1 (envX cn sc c.L a ccd cl)) (IsClu c cln)) (h2 : EvL c cl ρ [] [] P b2 (eval e2 (envX cn sc c.L a ccd cl)) (IsMems mems)) (hk : k + (b1 + b2 : Nat) ≤ 890)
    (hc : eval (.Call (.Attribute (.Name rn rp) (Str.ofString "assign") ap) [e1, e2] [] cp) (envX cn sc c.L a ccd cl) = (do
      let ov ← eval (.Name rn rp) (envX cn sc c.L a ccd cl)
      standAt ap.atName
      let (f, first) ← holding [ov] (getMethod ov (Str.ofString "assign") pl)
      callWith cp f first (backTo cp (starEach [e1, e2] (envX cn sc c.L a ccd cl))) []))
    (hs1 : starEach [e1, e2] (envX cn sc c.L a ccd cl) = (false, eval e1 (envX cn sc c.L a ccd cl)) :: starEach [e2] (envX cn sc c.L a ccd cl)) (hs2 : starEach [e2] (envX cn sc c.L a ccd cl) = (false, eval e2 (envX cn sc c.L a ccd cl)) :: starEach [] (envX cn sc c.L a ccd cl)) (hpl : (backTo cp (starEach [e2] (envX cn sc c.L a ccd cl))).any (·.1) = false)
    (hso : mems = ms1 ++ ms2) (h1s : ∀ mm ∈ ms1, ∃ g, mm.own = some g) (h2s : ∀ mm ∈ ms2, mm.own = none) (hnn : (mems.map (·.name)).Nodup) (hm5 : mems.length ≤ 5) (htop : ∀ mm ∈ mems, ∀ t ∈ mm.topics, t ∈ tops) (ht5 : tops.length ≤ 5) (hr5 : ∀ t, (rowsOf mems t).length ≤ 5) (hrn : ∀ t, ((rowsOf mems t).map (·.2)).Nodup) (hc7 : ∀ t ns, lookT cln t = some ns → ns.length ≤ 7)
    (ret : ∀ v V k' s', k' ≤ k + (b1 + b2 : Nat) → LS c cl s0 ρ [] [] (V ++ P) k' s' → (∃ keys, keys.Nodup ∧ (∀ t, rowsOf mems t ≠ [] ↔ t ∈ keys) ∧ IsDict c (mems.map (·.name)) (fun x => IsRes (toldOf (gotOf cln ms1 ms2 keys x))) (V ++ P) v) → Q v s') :
    wpAny (model PRG c.w) c.A (eval (.Call (.Attribute (.Name rn rp) (Str.ofString "assign") ap) [e1, e2] [] cp) (envX cn sc c.L a ccd cl)) Q (fun _ _ => False) s := by
  obtain ⟨m, cs, hp, tk, rfl, St0, C, hm, nd, dj⟩ := S
  simp only [List.append_nil, List.nil_append] at St0 nd dj
  refine MethodCall_ ?_ hc
  refine hr _ m _ _ k _ rp (fun _ h => h) St0 ?_
  refine method_of_cls St0.F D.X (by kernel_rfl) ?_
  obtain ⟨hd0, hh, N⟩ := St0.hd
  refine cls_cm (p := 154) (f := .ref 152) (rest := [.bool false]) (mc := .type "type") St0.F D.X N (by kernel_rfl) (by kernel_rfl) (by kernel_rfl) (by kernel_rfl) fun q h' F' N' lq => ?_
  have St1 : St c m ((q, methodObj (.ref 152) (.ref 178)) :: (cs ++ P)) k { s0 with heap := h', toks := tk + 1 } := by
    obtain ⟨t, n, rfl⟩ := hh
    exact (St0.push (V := [(q, methodObj (.ref 152) (.ref 178))]) (tk' := tk + 1) F' ⟨t, n, rfl⟩ N' fun p hp x hx => by rw [List.mem_singleton.mp hp]; exact Nat.ne_of_lt (lq x hx)).1
  refine callWith_M (g := 152) (self := .ref 178) (first := []) D.X St1.news List.mem_cons_self (by kernel_rfl) ?_ hs1 hpl
  have a1 := h1 m cs C hm
  have a2 := h2 m cs C hm
  simp only [List.append_nil] at a1 a2
  refine ea2 (monoClu cln) (monoMems mems) a1 a2 hs1 hs2 _ _ P k _ (fun p hp => List.mem_cons_of_mem _ hp) (fun _ h => h) (fun p hp => List.mem_cons_of_mem _ (List.mem_append_right _ hp)) St1 hk fun vs V k2 h2 tk2 hk2 S2 f2 p2 => ?_
  obtain ⟨v1, v2, rfl, p1, p2⟩ := p2
  have hq : (q, methodObj (.ref 152) (.ref 178)) ∈ V ++ (q, methodObj (.ref 152) (.ref 178)) :: (cs ++ P) := List.mem_append_right _ List.mem_cons_self
  refine ⟨methP S2.news hq (D.X.keeps S2.F.keep), ?_⟩
  refine call_meth S2.news hq ?_
  obtain ⟨clu, rfl⟩ : ∃ clu, v1 = .ref clu := p1.casesOn fun clu _ _ _ _ _ _ _ e _ _ _ _ _ _ _ => ⟨clu, e⟩
  obtain ⟨ml, rfl⟩ : ∃ ml, v2 = .ref ml := p2.elim fun ml ⟨_, _, e, _⟩ => ⟨ml, e⟩
  have hqo : ∀ p ∈ cs ++ P, p.1 ≠ q := fun p hp => by
    obtain ⟨t, n, e⟩ := hh
    exact Nat.ne_of_lt (lq p (List.mem_cons_of_mem _ hp))
  refine asg_ev (U := V ++ P) (K := (q, methodObj (.ref 152) (.ref 178)) :: cs) D hdd huu S2 (fun p hp => ?_) (fun p hp => ?_) (fun p hp => ?_) (List.nodup_cons.mpr ⟨fun hin => ?_, by simpa using nd⟩) (fun p hp r hr => ?_) (by omega) p1 p2 hso h1s h2s hnn hm5 htop ht5 hr5 hrn hc7 fun pa V2 keys k3 h3 tk3 hk3 S3 f3 hkn hki hres => ?_
  · simp only [List.mem_append, List.mem_cons] at hp ⊢
    rcases hp with h | h | h | h <;> simp [h]
  · simp only [List.mem_append, List.mem_cons] at hp ⊢
    rcases hp with h | h <;> simp [h]
  · simp only [List.mem_append, List.mem_cons] at hp ⊢
    rcases hp with h | h <;> simp [h]
  · obtain ⟨r, hr, e⟩ := List.mem_map.mp hin
    exact hqo r (List.mem_append_left _ hr) e
  · rcases List.mem_append.mp hp with h | h <;> rcases List.mem_cons.mp hr with h' | h'
    · rw [h']; exact f2 p h _ List.mem_cons_self
    · exact f2 p h r (List.mem_cons_of_mem _ (List.mem_append_left _ h'))
    · rw [h']; exact (hqo p (List.mem_append_right _ h)).symm
    · exact dj p h r h'
  refine ret (.ref pa) (V2 ++ V) k3 _ (by omega) ⟨m, cs, h3, tk3, rfl, S3.sub fun p hp => ?_, C, hm, by simpa using nd, fun p hp r hr => ?_⟩ ⟨keys, hkn, hki, by rw [List.append_assoc]; exact hres⟩
  · simp only [List.mem_append, List.mem_cons, List.append_nil, List.nil_append] at hp ⊢
    rcases hp with h | (h | h) | h <;> simp [h]
  · simp only [List.append_nil, List.nil_append] at hr
    rcases List.mem_append.mp hp with h | h
    · rcases List.mem_append.mp h with h | h
      · exact f3 p h r (List.mem_append_right _ (List.mem_cons_of_mem _ (List.mem_append_left _ hr)))
      · exact f2 p h r (List.mem_cons_of_mem _ (List.mem_append_left _ hr))
    · exact dj p h r hr

end
section
noncomputable abbrev CL (L : Addr) : List (Str × Addr) := cellsFrom (L + 1) st_13S.names []
noncomputable abbrev LE (c : Cx) (fa : Addr) (cd : Value) : Env := envX (Str.ofString "law") st_13S c.L fa cd (CL c.L)
theorem cl_nodup (L : Addr) : ((CL L).map (·.1)).Nodup := by
  rw [cellsFrom_names st_13S.names (L + 1) 0 [] [] rfl]
  decide +kernel
section
variable {c : Cx} {fa : Addr} {cd : Value} {mean : ExcName → Option Value} {mg mb : Str → Option Value} {s0 s : Shared} {ρ : Str → Option Value} {Fx M P X : Led} {k : Int} {m : Str → Option Value} {cs R : Led}
theorem rdc {x : Str} {v : Value} {b : Addr} (hx : (LE c fa cd).kindOf x = some .cell) (hd : (x == ("__debug__" : Str)) = false) (hc : (CL c.L).lookup x = some b) (C : CellsAre ρ (CL c.L) cs) (hv : ρ x = some v) : Rd c ((cs ++ X) ++ P) m (LE c fa cd) x v :=
  rd_cell rfl hx hd C hc (fun p hp => List.mem_append_left _ (List.mem_append_left _ hp)) hv
theorem rdl {x : Str} {v : Value} (hx : (LE c fa cd).kindOf x = some .local) (hd : (x == ("__debug__" : Str)) = false) (hl : (CL c.L).lookup x = none) (hm : ∀ x, (CL c.L).lookup x = none → m x = ρ x) (hv : ρ x = some v) : Rd c R m (LE c fa cd) x v :=
  rd_local rfl hx hd ((hm x hl).trans hv)
theorem heldc {x : Str} (hx : (LE c fa cd).kindOf x = some .cell) (hc : ((CL c.L).lookup x).isSome = true) : Held c (Str.ofString "law") st_13S fa cd (CL c.L) x := .inr ⟨hx, hc⟩
theorem heldl {x : Str} (hx : (LE c fa cd).kindOf x = some .local) (hc : (CL c.L).lookup x = none) : Held c (Str.ofString "law") st_13S fa cd (CL c.L) x := .inl ⟨hx, hc⟩
noncomputable abbrev WL (c : Cx) (fa : Addr) (cd : Value) (l : List Stmt) (Q : Flow → Shared → Prop) (s : Shared) : Prop := wpAny (model PRG c.w) c.A (execs l (LE c fa cd)) Q (fun _ _ => False) s
def names5 : List Str := [Str.ofString "a", Str.ofString "ab", Str.ofString "b", Str.ofString "ba", Str.ofString "c"]
/-- many, static, names -/
theorem lawA {Q : Flow → Shared → Prop} (D : Deep c mean mg mb) (S : LS c (CL c.L) s0 ρ [] [] P k s) (hh : ρ (Str.ofString "hand") = some (.ref c.hand)) (hk : k ≤ 100)
    (next : ∀ (many static : Nat) t1 t2 (names : List Str) v3 k' s' P', 1 ≤ many → many ≤ 5 → static ≤ many → (∃ es : List Str, es.Perm names5 ∧ names = es.take many) → names.length = many → DatIn P' v3 (.list (names.map Dat.str)) → k' ≤ k + 7 →
      LS c (CL c.L) s0 (upd (upd (upd ρ (Str.ofString "many") (.int many t1)) (Str.ofString "static") (.int static t2)) (Str.ofString "names") v3) [] [] P' k' s' → WL c fa cd lw4 Q s') : WL c fa cd lw1 Q s := by
  delta lw1 stm1
  refine ls_assign S rfl (cl_nodup _) (heldc rfl rfl) rfl (b := 1) (PP := IsI fun z => ∃ r, z = 1 + r ∧ (0 ≤ r ∧ r < 5)) (fun m cs C hm => ?_) (by omega) fun v V k1 s1 hk1 S1 p1 => ?_
  · exact ev_addI (b1 := 0) (b2 := 1) ev_int (ev_next (b := 0) D (rd_glob D.toTops (by kernel_rfl) rfl rfl (by decide)) (rdc rfl (by decide) rfl C hh) ev_int (by decide) (by decide) rfl rfl rfl)
  obtain ⟨z, t1, rfl, r, rfl, hr0, hr5⟩ := p1
  obtain ⟨many, hm⟩ : ∃ many : Nat, (1 + r : Int) = (many : Int) := ⟨(1 + r).toNat, by omega⟩
  rw [hm] at S1
  delta lw2 stm2
  refine ls_assign S1 rfl (cl_nodup _) (heldl rfl rfl) rfl (b := 1) (PP := IsI fun z => 0 ≤ z ∧ z < (many : Int) + 1) (fun m cs C hm => ?_) (by omega) fun v V2 k2 s2 hk2 S2 p2 => ?_
  · exact ev_next (b := 0) D (rd_glob D.toTops (by kernel_rfl) rfl rfl (by decide)) (rdc rfl (by decide) rfl C (by rw [upd_ne (by decide)]; exact hh)) (ev_add (b1 := 0) (b2 := 0) (ev_nameD (rdc rfl (by decide) rfl C upd_self) (.int _ _)) ev_int) (by omega) (by omega) rfl rfl rfl
  obtain ⟨z, t2, rfl, hz0, hz1⟩ := p2
  obtain ⟨static, rfl⟩ : ∃ static : Nat, z = (static : Int) := ⟨z.toNat, by omega⟩
  delta lw3 stm3
  refine ls_assign S2 rfl (cl_nodup _) (heldc rfl rfl) rfl (b := 5) (PP := fun Y v => ∃ (ds : List Dat) (j : Nat), (∃ ds0, ds0 = names5.map Dat.str ∧ ds.Perm ds0) ∧ j = many ∧ DatIn Y v (.list (ds.take j))) (fun m cs C hm => ?_) (by omega) fun v V3 k3 s3 hk3 S3 p3 => ?_
  · refine ev_upto (b1 := 5) (b2 := 0) (ev_mixed (b := 0) (n := 5) (PD := fun ds => ds = names5.map Dat.str) D (rd_glob D.toTops (by kernel_rfl) rfl rfl (by decide)) (rdc rfl (by decide) rfl C (by rw [upd_ne (by decide), upd_ne (by decide)]; exact hh)) ?_ (fun ds e => by rw [e]; exact Nat.le_refl _) (by decide) rfl rfl rfl) ?_ ?_ ?_
    · refine (ev_listL (b := 0) (ds := names5.map Dat.str) ?_ (by decide)).imp fun Y v h => ⟨_, rfl, h⟩
      exact ea_consD (b1 := 0) (b2 := 0) ev_str (ea_consD (b1 := 0) (b2 := 0) ev_str (ea_consD (b1 := 0) (b2 := 0) ev_str (ea_consD (b1 := 0) (b2 := 0) ev_str (ea_consD (b1 := 0) (b2 := 0) ev_str ea_nil rfl) rfl) rfl) rfl) rfl
    · rintro ds ⟨ds0, rfl, hp⟩
      rw [hp.length_eq]; decide
    · exact (ev_nameV (rdc rfl (by decide) rfl C (by rw [upd_ne (by decide)]; exact upd_self))).imp fun Y v e => ⟨many, t1, e, rfl⟩
    · intro o v; rfl
  obtain ⟨ds, j, ⟨ds0, rfl, hp⟩, hj, p3⟩ := p3
  rw [hj] at p3
  obtain ⟨es, rfl, hpe⟩ : ∃ es : List Str, ds = es.map Dat.str ∧ es.Perm names5 := by
    have : ∀ {l : List Str} {ds : List Dat}, ds.Perm (l.map Dat.str) → ∃ es : List Str, ds = es.map Dat.str ∧ es.Perm l := by
      intro l ds h
      generalize hl : l.map Dat.str = l' at h
      induction h generalizing l with
      | nil => exact ⟨[], rfl, by cases l <;> simp at hl ⊢⟩
      | cons x _ ih =>
        match l, hl with
        | a :: l, hl =>
          simp only [List.map_cons, List.cons.injEq] at hl
          obtain ⟨es, e1, e2⟩ := ih hl.2
          exact ⟨a :: es, by simp [hl.1, e1], e2.cons a⟩
      | swap x y l2 =>
        match l, hl with
        | a :: b :: l, hl =>
          simp only [List.map_cons, List.cons.injEq] at hl
          exact ⟨b :: a :: l, by simp [hl.1, hl.2.1, hl.2.2], .swap _ _ _⟩
      | trans _ _ ih1 ih2 =>
        obtain ⟨es, e1, e2⟩ := ih2 hl
        obtain ⟨fs, f1, f2⟩ := ih1 e1.symm
        exact ⟨fs, f1, f2.trans e2⟩
    exact this hp
  rw [← List.map_take] at p3
  have hlen : (es.take many).length = many := by rw [List.length_take, hpe.length_eq]; simp [names5]; omega
  exact next many static t1 t2 (es.take many) v k3 s3 _ (by omega) (by omega) (by omega) ⟨es, hpe, rfl⟩ hlen p3 (by omega) S3
end

end
section
theorem perm_map {α : Type} {f : α → Dat} {l : List α} {ds : List Dat} (h : ds.Perm (l.map f)) : ∃ es : List α, ds = es.map f ∧ es.Perm l := by
  generalize hl : l.map f = l' at h
  induction h generalizing l with
  | nil => exact ⟨[], rfl, by cases l <;> simp at hl ⊢⟩
  | cons x _ ih =>
    match l, hl with
    | a :: l, hl =>
      simp only [List.map_cons, List.cons.injEq] at hl
      obtain ⟨es, e1, e2⟩ := ih hl.2
      exact ⟨a :: es, by simp [hl.1, e1], e2.cons a⟩
  | swap x y l2 =>
    match l, hl with
    | a :: b :: l, hl =>
      simp only [List.map_cons, List.cons.injEq] at hl
      exact ⟨b :: a :: l, by simp [hl.1, hl.2.1, hl.2.2], .swap _ _ _⟩
  | trans _ _ ih1 ih2 =>
    obtain ⟨es, e1, e2⟩ := ih2 hl
    obtain ⟨fs, f1, f2⟩ := ih1 e1.symm
    exact ⟨fs, f1, f2.trans e2⟩
theorem runs_ints {ds ys : List Dat} (h : Runs (fun _ o => ∃ z, o = some (.int z)) ds ys) : ∃ zs : List Int, ys = zs.map Dat.int ∧ zs.length = ds.length := by
  induction h with
  | nil => exact ⟨[], rfl, rfl⟩
  | skip _ hs _ => obtain ⟨z, h⟩ := hs; cases h
  | put _ hs ih =>
    obtain ⟨z, h⟩ := hs
    cases h
    obtain ⟨zs, rfl, hl⟩ := ih
    exact ⟨zs ++ [z], by simp, by simp [hl]⟩
def topics4 : List Str := [Str.ofString "t", Str.ofString "u", Str.ofString "s", Str.ofString "tt"]
theorem topics4_nd : topics4.Nodup := by decide
theorem top_new {i : Nat} {tp : Str} (h : topics4[i]? = some tp) : tp ∉ topics4.take i := by
  match i, h with
  | 0, h => simp
  | 1, h => obtain rfl := Option.some.inj h; decide
  | 2, h => obtain rfl := Option.some.inj h; decide
  | 3, h => obtain rfl := Option.some.inj h; decide
  | n + 4, h => cases h
abbrev L3 (c : Cx) (vm vst vn : Value) : List (Str × Value) := [(Str.ofString "names", vn), (Str.ofString "static", vst), (Str.ofString "many", vm), (Str.ofString "hand", .ref c.hand)]
section
variable {c : Cx} {fa : Addr} {cd : Value} {mean : ExcName → Option Value} {mg mb : Str → Option Value} {s0 s : Shared} {ρ : Str → Option Value} {P : Led} {k : Int}
/-- a dict of lists of ints, some of them -/
def CluOk (c : Cx) (ks : List Str) (od : Obj) (P : Led) : Prop := ∃ kvs, od.IsDictOf (SK c) kvs ∧ kvs.map (·.1) = ks ∧ ∀ x u, valueAt kvs x = some u → ∃ ns : List Int, ns.length ≤ 7 ∧ DatIn P u (.list (ns.map Dat.int))
/-- the cluster -/
theorem lawB {vm vst vn : Value} {Q : Flow → Shared → Prop} (D : Deep c mean mg mb) (S : LS c (CL c.L) s0 ρ [] [] P k s) (hl : Hs ρ (L3 c vm vst vn)) (hk : k ≤ 200)
    (next : ∀ (j : Nat) vc (num : Str → List Int) ρ' k' s' P', 1 ≤ j → j ≤ 4 → Hs ρ' ((Str.ofString "cluster", vc) :: L3 c vm vst vn) → (∀ p ∈ P, p ∈ P') → (∀ x, (num x).length ≤ 7) → IsDict c (topics4.take j) (fun x => IsD (.list ((num x).map Dat.int))) P' vc → k' ≤ k + 37 → LS c (CL c.L) s0 ρ' [] [] P' k' s' → WL c fa cd lw6 Q s') : WL c fa cd lw4 Q s := by
  delta lw4 stm4
  refine ls_own S rfl (cl_nodup _) (heldc rfl rfl) rfl (PO := fun b o => (b == sysModules) = false ∧ o.IsDictOf (SK c) []) (fun s m Z Q F N ret => ?_) fun dc od s1 S1 hlo => ?_
  · exact newDict_K F N (topRead_of D.T).nolimit fun d h' o F' N' l lo a b e f => ret d o h' s.toks F' N' l ⟨lo, a⟩
  obtain ⟨hlo, hod⟩ := hlo
  have h1 := hl.add (x := Str.ofString "cluster") (v := .ref dc)
  delta lw5 stm5
  refine ls_for (b := 1) (PN := fun ds => ∃ j : Nat, 1 ≤ j ∧ j ≤ 4 ∧ ds = (topics4.take j).map Dat.str) S1 rfl (cl_nodup _) (heldc rfl rfl) (fun _ => rfl) (fun m cs C hm => ?_) (by omega) fun ds V k1 hds hk1 => ?_
  · refine ex_list D.hh ((ev_upto (b1 := 0) (b2 := 1) (PD := fun ds => ds = topics4.map Dat.str) (P := fun j => 1 ≤ j ∧ j ≤ 4) ?_ (fun ds e => by rw [e]; decide) ?_ fun o v => rfl).imp fun Y v ⟨ds, j, e, hj, h⟩ => ⟨_, ⟨j, hj.1, hj.2, by rw [List.map_take, ← e]⟩, h⟩)
    · refine (ev_listL (b := 0) (ds := topics4.map Dat.str) ?_ (by decide)).imp fun Y v h => ⟨_, rfl, h⟩
      exact ea_consD (b1 := 0) (b2 := 0) ev_str (ea_consD (b1 := 0) (b2 := 0) ev_str (ea_consD (b1 := 0) (b2 := 0) ev_str (ea_consD (b1 := 0) (b2 := 0) ev_str ea_nil rfl) rfl) rfl) rfl
    · refine (ev_addI (b1 := 0) (b2 := 1) ev_int (ev_next (b := 0) D (rd_glob D.toTops (by kernel_rfl) rfl rfl (by decide)) (rdc rfl (by decide) rfl C (h1 _ _ rfl)) ev_int (by decide) (by decide) rfl rfl rfl)).imp fun Y v ⟨z, t, e, r, e2, h0, h4⟩ => ?_
      exact ⟨z.toNat, t, by rw [e]; congr 1; omega, by omega, by omega⟩
  obtain ⟨j, hj1, hj4, rfl⟩ := hds
  refine ⟨fun i ρ' M' P' k' => Hs ρ' ((Str.ofString "cluster", .ref dc) :: L3 c vm vst vn) ∧ (∃ od', M' = [(dc, od')] ∧ CluOk c (topics4.take i) od' P') ∧ k' ≤ k1 + 9 * i ∧ i ≤ j, ⟨h1, ⟨od, rfl, [], hod, by simp, fun x u hu => by cases hu⟩, by omega, by omega⟩, ?_, ?_⟩
  · rintro i v o I ρ' M' P' k' s' hi ⟨d, hd, hdv⟩ hsub ⟨hρ, ⟨od', rfl, kvs, hod', hkv, hval⟩, hk', hij⟩ S'
    rw [List.length_map, List.length_take] at hi
    rw [List.getElem?_map] at hd
    obtain ⟨tp, htp, rfl⟩ := Option.map_eq_some_iff.mp hd
    obtain ⟨tt, rfl⟩ := dstr hdv
    have htop : topics4[i]? = some tp := by rw [List.getElem?_take] at htp; split at htp <;> simp_all
    have h2 := hρ.add (x := Str.ofString "topic") (v := .str tp tt)
    refine ls_assign S' rfl (cl_nodup _) (heldc rfl rfl) rfl (b := 1) (PP := IsI fun z => ∃ r, z = 1 + r ∧ (0 ≤ r ∧ r < 3)) (fun m cs C hm => ?_) (by omega) fun v V2 k2 s2 hk2 S2 p2 => ?_
    · exact ev_addI (b1 := 0) (b2 := 1) ev_int (ev_next (b := 0) D (rd_glob D.toTops (by kernel_rfl) rfl rfl (by decide)) (rdc rfl (by decide) rfl C (h2 _ _ rfl)) ev_int (by decide) (by decide) rfl rfl rfl)
    obtain ⟨σ, ts, rfl, r, hσ, hr0, hr3⟩ := p2
    have h3 := h2.add (x := Str.ofString "step") (v := .int σ ts)
    have hkl : kvs.length ≤ 1000 := by
      have := congrArg List.length hkv
      rw [List.length_map, List.length_take] at this
      simp [topics4] at this
      omega
    refine ls_setitem (pre := []) (post := []) (be := 8) (x := tp) (PP := fun Y v => ∃ ns : List Int, ns.length ≤ 7 ∧ DatIn Y v (.list (ns.map Dat.int))) S2 (fun m cs C hm => ?_) (fun m cs C hm => ev_nameV (rdc rfl (by decide) rfl C (h3 _ _ rfl))) (fun m cs C hm => ev_nameD (rdc rfl (by decide) rfl C (h3 _ _ rfl)) (.str _ _)) (by omega) (fun Y Y' v hs ⟨ns, a, b⟩ => ⟨ns, a, b.mono hs⟩) hod' hkl rfl fun v V3 k3 od3 s3 hk3 S3 hod3 p3 => ?_
    · refine (ev_mixed (b := 1) (n := 7) (PD := fun ds => ∃ zs : List Int, zs.length ≤ 7 ∧ ds = zs.map Dat.int) D (rd_glob D.toTops (by kernel_rfl) rfl rfl (by decide)) (rdc rfl (by decide) rfl C (h3 _ _ rfl)) ?_ (fun ds ⟨zs, a, e⟩ => by rw [e, List.length_map]; exact a) (by decide) rfl rfl rfl).imp fun Y v ⟨es, ⟨ds, ⟨zs, hz, e⟩, hp⟩, h⟩ => ?_
      · refine (ev_comp1 (b0 := 1) (b1 := 0) (b2 := 0) (NN := 7) (PN := fun ds => ∃ n : Nat, (0 ≤ (n : Int) ∧ (n : Int) < 8) ∧ ds = upTo 0 n) (PE := fun d => ∃ i : Nat, i < 8 ∧ d = .int i) (B := fun d => [(Str.ofString "number", d)]) (T := fun _ b => b = true) (S := fun _ o => ∃ z, o = some (.int z)) rfl (by decide) rfl (by decide) (fun _ => rfl) ?_ ?_ (by decide) (fun d _ => tgt_name rfl fun _ => rfl) (fun d _ C' oC m₂ Y' hs hC hB => ev_tests0) ?_ (fun d _ h => by cases h)).imp fun Y v ⟨ds, ys, ⟨n, hn', e⟩, hr, h⟩ => ?_
        · exact ex_range D.hh (rd_built D.toTops (by kernel_rfl) (by boot_fast) (by decide) rfl rfl (by decide)) (fun z hz => by omega) (ev_next (b := 0) D (rd_glob D.toTops (by kernel_rfl) rfl rfl (by decide)) (rdc rfl (by decide) rfl C (h3 _ _ rfl)) ev_int (by decide) (by decide) rfl rfl rfl) rfl
        · rintro ds ⟨n, hn', rfl⟩
          rw [upTo_len]
          refine ⟨by omega, fun d hd => ?_⟩
          obtain ⟨i, hi, rfl⟩ := List.mem_map.mp hd
          exact ⟨i, by have := List.mem_range.mp hi; omega, by simp⟩
        · rintro d ⟨i, hi8, rfl⟩ _ C' oC m₂ Y' hs hC hB
          obtain ⟨u, hu1, hu2⟩ := hB _ List.mem_cons_self
          refine (ev_sub (b1 := 0) (b2 := 0) (ev_add (b1 := 0) (b2 := 0) (ev_mul (b1 := 0) (b2 := 0) ?_ (ev_nameD (rdf rfl rfl (by decide) rfl rfl inR1 C (h3 _ _ rfl)) (.int _ _)) (ev_nameD (rd_own (x := Str.ofString "number") rfl rfl (by decide) List.mem_cons_self hC hu1) hu2)) (ev_nameD (rdf rfl rfl (by decide) rfl rfl inR1 C (h3 _ _ rfl)) (.int _ _))) ev_int).imp fun Y v h => ⟨_, h, _, rfl⟩
          obtain ⟨h0, h3⟩ := (⟨hr0, hr3⟩ : 0 ≤ r ∧ r < 3)
          obtain rfl | rfl | rfl : r = 0 ∨ r = 1 ∨ r = 2 := by omega
          all_goals subst hσ; exact IntMulOk.of_left (by decide)
        · obtain ⟨zs, rfl, hl'⟩ := runs_ints hr
          refine ⟨_, ⟨zs, ?_, rfl⟩, h⟩
          rw [hl', e, upTo_len]; omega
      · obtain ⟨fs, rfl, hp2⟩ := perm_map (e ▸ hp)
        exact ⟨fs, by rw [hp2.length_eq]; exact hz, h⟩
    · refine wpAny_execs_nil ⟨rfl, _, _, _, _, S3, fun p hp => List.mem_append_right _ (List.mem_append_right _ hp), ?_, ⟨od3, rfl, stored kvs tp v, hod3, ?_, ?_⟩, by push_cast; omega, by omega⟩
      · exact (h3.drop rfl).drop rfl
      · have hnew : tp ∉ kvs.map (·.1) := by
          rw [hkv]; exact top_new htop
        rw [stored_new hnew, List.map_append, hkv, List.take_add_one, htop]; rfl
      · intro x u hu
        have hnew : tp ∉ kvs.map (·.1) := by
          rw [hkv]; exact top_new htop
        rw [stored_new hnew, valueAt_snoc hnew] at hu
        by_cases e : x = tp
        · subst e
          rw [if_pos rfl] at hu
          cases hu
          obtain ⟨ns, a, b⟩ := p3
          exact ⟨ns, a, b⟩
        · rw [if_neg e] at hu
          obtain ⟨ns, a, b⟩ := hval x u hu
          exact ⟨ns, a, b.mono fun p hp => List.mem_append_right _ (List.mem_append_right _ hp)⟩
  · rintro ρ' M' P' k' s' hsub ⟨hρ, ⟨od', rfl, hc⟩, hk', hij⟩ S'
    have S2 := S'.freeze (pre := []) (post := [])
    rw [List.length_map, List.length_take] at hc hk'
    have ej : min j topics4.length = j := by simp [topics4]; omega
    rw [ej] at hc hk'
    obtain ⟨kvs, hd, hkv, hval⟩ := hc
    have hch : ∀ x, ∃ ns : List Int, ns.length ≤ 7 ∧ ∀ u, valueAt kvs x = some u → DatIn P' u (.list (ns.map Dat.int)) := fun x => by
      cases h : valueAt kvs x with
      | none => exact ⟨[], Nat.zero_le _, fun u hu => by cases hu⟩
      | some u => exact (hval x u h).imp fun ns ⟨a, b⟩ => ⟨a, fun u' hu' => by cases hu'; exact b⟩
    obtain ⟨num, hnum⟩ := Classical.axiomOfChoice hch
    exact next j (.ref dc) num ρ' k' s' _ hj1 hj4 hρ (fun p hp => List.mem_cons_of_mem _ (hsub p (List.mem_append_right _ hp))) (fun x => (hnum x).1) ⟨dc, od', kvs, rfl, List.mem_cons_self, hlo, hd, hkv, fun x u hu => ((hnum x).2 u hu).mono fun p hp => List.mem_cons_of_mem _ hp⟩ (by omega) S2
end

end
section
def five : List Str := [Str.ofString "u", Str.ofString "none", Str.ofString "t", Str.ofString "tt", Str.ofString "s"]
abbrev L4 (c : Cx) (vm vst vn vc : Value) : List (Str × Value) := (Str.ofString "cluster", vc) :: L3 c vm vst vn
abbrev L5 (c : Cx) (vm vst vn vc vw : Value) : List (Str × Value) := (Str.ofString "wants", vw) :: L4 c vm vst vn vc
abbrev dStrs (w : List Str) : Dat := .list (w.map Dat.str)
theorem runs_sub {ds ys : List Dat} (h : Runs (fun d o => o = none ∨ o = some d) ds ys) : ys.Sublist ds := by
  induction h with
  | nil => exact .slnil
  | skip _ _ ih => exact ih.trans (List.sublist_append_left _ _)
  | put _ hs ih =>
    rcases hs with h | h
    · cases h
    · cases h; exact ih.append (List.Sublist.refl _)
theorem runs_rows {ds ys : List Dat} (h : Runs (fun _ o => ∃ w : List Str, w.Sublist five ∧ o = some (dStrs w)) ds ys) : ∃ W : List (List Str), ys = W.map dStrs ∧ W.length = ds.length ∧ ∀ w ∈ W, w.Sublist five := by
  induction h with
  | nil => exact ⟨[], rfl, rfl, fun w hw => by cases hw⟩
  | skip _ hs _ => obtain ⟨z, _, h⟩ := hs; cases h
  | put _ hs ih =>
    obtain ⟨w, hw, h⟩ := hs
    cases h
    obtain ⟨W, rfl, hl, ha⟩ := ih
    refine ⟨W ++ [w], by simp, by simp [hl], fun x hx => ?_⟩
    rcases List.mem_append.mp hx with h | h
    · exact ha x h
    · rw [List.mem_singleton.mp h]; exact hw
section
variable {c : Cx} {fa : Addr} {cd : Value} {mean : ExcName → Option Value} {mg mb : Str → Option Value} {s0 s : Shared} {ρ : Str → Option Value} {P : Led} {k : Int}
/-- wants -/
theorem lawC {vm vst vn vc : Value} {Nm : List Str} {Q : Flow → Shared → Prop} (D : Deep c mean mg mb) (S : LS c (CL c.L) s0 ρ [] [] P k s) (hl : Hs ρ (L4 c vm vst vn vc)) (hn : Nm.length ≤ 5) (hvn : DatIn P vn (dStrs Nm)) (hk : k ≤ 300)
    (next : ∀ (W : List (List Str)) vw ρ' k' s' P', W.length = Nm.length → (∀ w ∈ W, w.Sublist five) → Hs ρ' (L5 c vm vst vn vc vw) → (∀ p ∈ P, p ∈ P') → DatIn P' vw (.list (W.map dStrs)) → k' ≤ k + 25 → LS c (CL c.L) s0 ρ' [] [] P' k' s' → WL c fa cd lw7 Q s') : WL c fa cd lw6 Q s := by
  delta lw6 stm6
  refine ls_assign S rfl (cl_nodup _) (heldc rfl rfl) rfl (b := 25) (PP := fun Y v => ∃ W : List (List Str), W.length = Nm.length ∧ (∀ w ∈ W, w.Sublist five) ∧ DatIn Y v (.list (W.map dStrs))) (fun m cs C hm => ?_) (by omega) fun v V k1 s1 hk1 S1 p1 => ?_
  · refine (ev_comp1 (b0 := 0) (b1 := 0) (b2 := 5) (NN := 5) (PN := fun ds => ds = Nm.map Dat.str) (PE := fun d => ∃ x, d = .str x) (B := fun d => [(Str.ofString "name", d)]) (T := fun _ b => b = true) (S := fun _ o => ∃ w : List Str, w.Sublist five ∧ o = some (dStrs w)) rfl (by decide) rfl (by decide) (fun _ => rfl) ?_ ?_ (by decide) (fun d _ => tgt_name rfl fun _ => rfl) (fun d _ C' oC m₂ Y' hs hC hB => ev_tests0) ?_ (fun d _ h => by cases h)).imp fun Y v ⟨ds, ys, e, hr, h⟩ => ?_
    · exact ex_list D.hh ((ev_nameD (rdc rfl (by decide) rfl C (hl _ _ rfl)) hvn).imp fun Y v h => ⟨_, rfl, h⟩)
    · rintro ds rfl
      exact ⟨by rw [List.length_map]; exact hn, fun d hd => by obtain ⟨x, _, rfl⟩ := List.mem_map.mp hd; exact ⟨x, rfl⟩⟩
    · intro d _ _ C' oC m₂ Y' hs hC hB
      refine (ev_comp1 (b0 := 0) (b1 := 1) (b2 := 0) (NN := 5) (PN := fun ds => ds = five.map Dat.str) (PE := fun d => ∃ x, d = .str x) (B := fun d => [(Str.ofString "topic", d)]) (T := fun _ _ => True) (S := fun d o => o = none ∨ o = some d) rfl (by decide) rfl (by decide) (fun _ => rfl) ?_ ?_ (by decide) (fun d _ => tgt_name rfl fun _ => rfl) ?_ ?_ (fun d _ h => .inl rfl)).imp fun Y v ⟨ds, ys, e, hr, h⟩ => ?_
      · refine ex_list D.hh ((ev_listL (b := 0) (ds := five.map Dat.str) ?_ (by decide)).imp fun Y v h => ⟨_, rfl, h⟩)
        exact ea_consD (b1 := 0) (b2 := 0) ev_str (ea_consD (b1 := 0) (b2 := 0) ev_str (ea_consD (b1 := 0) (b2 := 0) ev_str (ea_consD (b1 := 0) (b2 := 0) ev_str (ea_consD (b1 := 0) (b2 := 0) ev_str ea_nil rfl) rfl) rfl) rfl) rfl
      · rintro ds rfl
        exact ⟨by decide, fun d hd => by obtain ⟨x, _, rfl⟩ := List.mem_map.mp hd; exact ⟨x, rfl⟩⟩
      · intro d _ C2 oC2 m3 Y2 hs2 hC2 hB2
        exact ev_tests1 (ev_gtAny (b1 := 1) (b2 := 0) (ev_next (b := 0) D (rd_cglob D.toTops (by kernel_rfl) rfl rfl rfl (by decide)) (rdf rfl rfl (by decide) rfl rfl (fun p hp => List.mem_cons_of_mem _ (inR1 p hp)) C (hl _ _ rfl)) ev_int (by decide) (by decide) rfl rfl rfl) ev_int rfl)
      · rintro d ⟨x, rfl⟩ _ C2 oC2 m3 Y2 hs2 hC2 hB2
        obtain ⟨u, hu1, hu2⟩ := hB2 _ List.mem_cons_self
        exact (ev_nameD (rd_own (x := Str.ofString "topic") rfl rfl (by decide) List.mem_cons_self hC2 hu1) hu2).imp fun Y v h => ⟨_, h, .inr rfl⟩
      · obtain ⟨w, hw, rfl⟩ := List.sublist_map_iff.mp (e ▸ runs_sub hr)
        exact ⟨_, h, w, hw, rfl⟩
    · obtain ⟨W, rfl, h1, h2⟩ := runs_rows hr
      exact ⟨W, by rw [h1, e, List.length_map], h2, h⟩
  obtain ⟨W, h1, h2, h3⟩ := p1
  exact next W v _ k1 s1 _ h1 h2 (hl.add) (fun p hp => List.mem_append_right _ hp) h3 hk1 S1
end

end
section
section
variable {c : Cx} {R Y : Led} {m : Str → Option Value} {env : Env}
theorem ev_ifexp {test body orelse : Expr} {pos : Pos} {b0 b1 : Nat} {B : Bool} {P : Led → Value → Prop} (ht : Ev c R Y m b0 (isTrue test env (eval test env)) (IsB B)) (h1 : B = true → Ev c R Y m b1 (eval body env) P) (h2 : B = false → Ev c R Y m b1 (eval orelse env) P) :
    Ev c R Y m (b0 + b1) (eval (.IfExp test body orelse pos) env) P := by
  intro s Z U k Q hR hY hU S hk ret
  refine wpAny_IfExp ?_
  refine ht s Z U k _ hR hY hU S (by omega) fun v V k1 hp1 tk1 hk1 S1 f1 p1 => ?_
  subst p1
  have go : ∀ {t : Sem Value}, Ev c R Y m b1 t P → wpAny (model PRG c.w) c.A t Q (fun _ _ => False) { s with heap := hp1, toks := tk1 } := fun h => by
    refine h _ (V ++ Z) (V ++ U) k1 _ (fun p hp => List.mem_append_right _ (hR p hp)) (fun p hp => List.mem_append_right _ (hY p hp)) (fun p hp => (List.mem_append.mp hp).elim (List.mem_append_left _) fun h => List.mem_append_right _ (hU p h)) S1 (by omega) fun u V2 k2 hp2 tk2 hk2 S2 f2 p2 => ?_
    refine ret u (V2 ++ V) k2 hp2 tk2 (by omega) ?_ (f1.app f2) ?_
    · rw [List.append_assoc]; exact S2
    · rw [List.append_assoc]; exact p2
  cases v
  · exact go (h2 rfl)
  · exact go (h1 rfl)
end
def nmAt (Nm : List Str) (k : Nat) : Str := (Nm[k]?).getD (Str.ofString "")
def memOf (Nm : List Str) (W : List (List Str)) (many static k : Nat) : Mem :=
  { name := nmAt Nm k, own := if k < static then some (Str.ofString "g" ++ nmAt Nm (many - 1 - k)) else none, topics := (W[k]?).getD [] }
def memsOf (Nm : List Str) (W : List (List Str)) (many static : Nat) : List Mem := (List.range many).map (memOf Nm W many static)
theorem nm_get {Nm : List Str} {k : Nat} (h : k < Nm.length) : (Nm.map Dat.str)[k]? = some (.str (nmAt Nm k)) := by
  unfold nmAt
  rw [List.getElem?_map, List.getElem?_eq_getElem h]; rfl
theorem W_get {W : List (List Str)} {k : Nat} (h : k < W.length) : (W.map dStrs)[k]? = some (dStrs ((W[k]?).getD [])) := by
  rw [List.getElem?_map, List.getElem?_eq_getElem h]; rfl
theorem nm_mem {Nm : List Str} {k : Nat} (h : k < Nm.length) : nmAt Nm k ∈ Nm := by
  unfold nmAt
  rw [List.getElem?_eq_getElem h]; exact List.getElem_mem h
theorem W_mem {W : List (List Str)} {k : Nat} (h : k < W.length) : (W[k]?).getD [] ∈ W := by
  rw [List.getElem?_eq_getElem h]; exact List.getElem_mem h
abbrev L6 (c : Cx) (vm vst vn vc vw ve : Value) : List (Str × Value) := (Str.ofString "members", ve) :: L5 c vm vst vn vc vw
section
variable {c : Cx} {fa : Addr} {cd : Value} {mean : ExcName → Option Value} {mg mb : Str → Option Value} {s0 s : Shared} {ρ : Str → Option Value} {P : Led} {k : Int}
/-- members -/
theorem lawD {many static : Nat} {t1 t2 : Tok} {vn vc vw : Value} {Nm : List Str} {W : List (List Str)} {Q : Flow → Shared → Prop} (D : Deep c mean mg mb) (S : LS c (CL c.L) s0 ρ [] [] P k s) (hl : Hs ρ (L5 c (.int many t1) (.int static t2) vn vc vw)) (h5 : many ≤ 5) (hn : Nm.length = many) (hnl : ∀ x ∈ Nm, x.length ≤ 10) (hW : W.length = many) (hw5 : ∀ w ∈ W, w.length ≤ 5)
    (hvn : DatIn P vn (dStrs Nm)) (hvw : DatIn P vw (.list (W.map dStrs))) (hk : k ≤ 400)
    (next : ∀ ve ρ' k' s' P', Hs ρ' (L6 c (.int many t1) (.int static t2) vn vc vw ve) → (∀ p ∈ P, p ∈ P') → IsMems (memsOf Nm W many static) P' ve → k' ≤ k → LS c (CL c.L) s0 ρ' [] [] P' k' s' → WL c fa cd lw9 Q s') : WL c fa cd lw7 Q s := by
  delta lw7 stm7
  refine ls_own S rfl (cl_nodup _) (heldl rfl rfl) rfl (PO := fun _ o => o = listOf #[] 0) (fun s m Z Q F N ret => ?_) fun ml od s1 S1 hod => ?_
  · exact List_ (wpAny_items_nil (newList_K F N (fun d h' F' N' l => ret d _ h' s.toks F' N' l rfl) (by rw [sizeLine_eq]; decide)))
  subst hod
  have h1 := hl.add (x := Str.ofString "members") (v := .ref ml)
  delta lw8 stm8
  refine ls_for (b := 0) (PN := fun ds => ∃ n : Nat, ((n : Int) = (many : Int)) ∧ ds = upTo 0 n) S1 rfl (cl_nodup _) (heldl rfl rfl) (fun _ => rfl) (fun m cs C hm => ?_) (by omega) fun ds V k1 hds hk1 => ?_
  · exact ex_range (Pr := fun z => z = (many : Int)) D.hh (rd_built D.toTops (by kernel_rfl) (by boot_fast) (by decide) rfl rfl (by decide)) (fun z hz => by omega) ((ev_nameV (rdc rfl (by decide) rfl C (h1 _ _ rfl))).imp fun Y v e => ⟨(many : Int), t1, e, rfl⟩) rfl
  obtain ⟨n, hnm, rfl⟩ := hds
  obtain rfl : n = many := by omega
  refine ⟨fun i ρ' M' P' k' => Hs ρ' (L6 c (.int n t1) (.int static t2) vn vc vw (.ref ml)) ∧ (∃ vs nn, M' = [(ml, listOf (List.toArray vs) nn)] ∧ vs.length = i ∧ ∀ (q : Nat) (v : Value) (mm : Mem), vs[q]? = some v → (memsOf Nm W n static)[q]? = some mm → MemAt P' v mm) ∧ k' ≤ k, ⟨h1, ⟨[], 0, rfl, rfl, fun q v mm h => by cases h⟩, by omega⟩, ?_, ?_⟩
  · rintro i v o I ρ' M' P' k' s' hi ⟨d, hd, hdv⟩ hsub ⟨hρ, ⟨vs, nn, rfl, hvl, hall⟩, hk'⟩ S'
    rw [upTo_len] at hi
    rw [upTo_get hi] at hd
    obtain rfl := Option.some.inj hd
    obtain ⟨tt, rfl⟩ := dint hdv
    rw [Int.zero_add] at S' hdv
    have hvn' : DatIn P' vn (dStrs Nm) := hvn.mono fun p hp => hsub p (List.mem_append_right _ hp)
    have hvw' : DatIn P' vw (.list (W.map dStrs)) := hvw.mono fun p hp => hsub p (List.mem_append_right _ hp)
    have h2 := hρ.add (x := Str.ofString "k") (v := .int (i : Int) tt)
    refine ls_assign S' rfl (cl_nodup _) (heldl rfl rfl) rfl (b := 0) (PP := IsD (ownD (memOf Nm W n static i).own)) (fun m cs C hm => ?_) (by omega) fun ov V2 k2 s2 hk2 S2 p2 => ?_
    · refine ev_ifexp (b0 := 0) (b1 := 0) (B := decide ((i : Int) < (static : Int))) (ev_lt (b1 := 0) (b2 := 0) (ev_nameD (rdl rfl (by decide) rfl hm (h2 _ _ rfl)) (.int _ _)) (ev_nameD (rdl rfl (by decide) rfl hm (h2 _ _ rfl)) (.int _ _)) rfl) (fun hB => ?_) fun hB => ?_
      · have hlt : i < static := by have := of_decide_eq_true hB; omega
        have e : ownD (memOf Nm W n static i).own = .str (Str.ofString "g" ++ nmAt Nm (n - 1 - i)) := by
          unfold memOf; rw [if_pos hlt]; rfl
        rw [e]
        refine ev_adds (b1 := 0) (b2 := 0) ?_ ev_str (ev_item (b1 := 0) (b2 := 0) (ds := Nm.map Dat.str) (j := (n : Int) - 1 - i) (ev_nameD (rdc rfl (by decide) rfl C (h2 _ _ rfl)) hvn') (ev_sub (b1 := 0) (b2 := 0) (ev_sub (b1 := 0) (b2 := 0) (ev_nameD (rdc rfl (by decide) rfl C (h2 _ _ rfl)) (.int _ _)) ev_int) (ev_nameD (rdl rfl (by decide) rfl hm (h2 _ _ rfl)) (.int _ _))) (by omega) ?_ (by rw [List.length_map]; omega) fun _ _ => rfl)
        · have h1 := hnl _ (nm_mem (Nm := Nm) (k := n - 1 - i) (by omega))
          have h2 : (Str.ofString "g").length = 1 := by decide
          rw [h2]; omega
        · have : ((n : Int) - 1 - i).toNat = n - 1 - i := by omega
          rw [this]; exact nm_get (by omega)
      · have hlt : ¬ i < static := by have := of_decide_eq_false hB; omega
        have e : ownD (memOf Nm W n static i).own = .none := by
          unfold memOf; rw [if_neg hlt]; rfl
        rw [e]
        exact ev_none
    have h3 := h2.add (x := Str.ofString "own") (v := ov)
    have hiN : ((i : Int)).toNat = i := by omega
    refine ls_append (pre := []) (post := []) (b1 := 0) (b2 := 0) (PP := IsMem (memOf Nm W n static i)) S2 (fun m cs C hm => ev_nameV (rdl rfl (by decide) rfl hm (h3 _ _ rfl))) (fun m cs C hm => ?_) (by omega) (by omega) rfl rfl rfl rfl fun v V3 k3 s3 hk3 S3 p3 => ?_
    · refine ev_callK (b1 := 0) (b2 := 0) D.X (by kernel_rfl) (f := .ref 87) (rd_glob D.toTops (by kernel_rfl) rfl rfl (by decide)) (ea_cons (b1 := 0) (b2 := 0) (monoD (.str (nmAt Nm i))) ?_ (ea_cons (b1 := 0) (b2 := 0) (monoD (ownD (memOf Nm W n static i).own)) (ev_nameD (rdl rfl (by decide) rfl hm (h3 _ _ rfl)) p2) (ea1 (monoSub ((W[i]?).getD [])) ?_ rfl) rfl) rfl) (fun vs Y' hs pv => ?_) rfl rfl
      · exact ev_item (b1 := 0) (b2 := 0) (ds := Nm.map Dat.str) (j := (i : Int)) (ev_nameD (rdc rfl (by decide) rfl C (h3 _ _ rfl)) (hvn'.mono fun p hp => List.mem_append_right _ hp)) (ev_nameD (rdl rfl (by decide) rfl hm (h3 _ _ rfl)) (.int _ _)) (by omega) (by rw [hiN]; exact nm_get (by omega)) (by rw [List.length_map]; omega) fun _ _ => rfl
      · refine ev_callK (b1 := 0) (b2 := 0) D.X (by kernel_rfl) (f := .ref 40) (rd_glob D.toTops (by kernel_rfl) rfl rfl (by decide)) (ea_cons (b1 := 0) (b2 := 0) (monoD (.int 0)) ev_int (ea_cons (b1 := 0) (b2 := 0) (monoD (dStrs ((W[i]?).getD []))) ?_ (ea1 (monoD (.bytes #[])) ev_bytes rfl) rfl) rfl) (fun vs Y' hs pv => ?_) rfl rfl
        · refine ev_callT (b1 := 0) (b2 := 0) (rd_built D.toTops (by kernel_rfl) (by boot_fast) (by decide) rfl rfl (by decide)) (ea1 (monoD (dStrs ((W[i]?).getD []))) ?_ rfl) (fun vs Y' hs pv => ?_) rfl rfl
          · exact ev_item (b1 := 0) (b2 := 0) (ds := W.map dStrs) (j := (i : Int)) (ev_nameD (rdc rfl (by decide) rfl C (h3 _ _ rfl)) (hvw'.mono fun p hp => List.mem_append_right _ hp)) (ev_nameD (rdl rfl (by decide) rfl hm (h3 _ _ rfl)) (.int _ _)) (by omega) (by rw [hiN]; exact W_get (by omega)) (by rw [List.length_map]; omega) fun _ _ => rfl
          · obtain ⟨v, rfl, hv⟩ := pv
            exact ec_list hv (by rw [List.length_map]; have := hw5 _ (W_mem (W := W) (k := i) (by omega)); omega)
        · obtain ⟨v1, us, rfl, q1, v2, us2, rfl, q2, v3, rfl, q3⟩ := pv
          obtain ⟨t1, rfl⟩ := dint q1
          obtain ⟨t3, rfl⟩ := dbytes q3
          exact ec_sub D q2
      · obtain ⟨v1, us, rfl, q1, v2, us2, rfl, q2, v3, rfl, q3⟩ := pv
        obtain ⟨t1, rfl⟩ := dstr q1
        exact ec_mem (mm := memOf Nm W n static i) D q2 q3
    · refine wpAny_execs_nil ⟨rfl, _, _, _, _, S3, fun p hp => List.mem_append_right _ (List.mem_append_right _ hp), (h3.drop rfl).drop rfl, ⟨vs ++ [v], nn + 1, rfl, by rw [List.length_append, hvl]; rfl, fun q u mm hq hmm => ?_⟩, by omega⟩
      rw [List.getElem?_append] at hq
      split at hq
      · exact (hall q u mm hq hmm).mono fun p hp => List.mem_append_right _ (List.mem_append_right _ hp)
      · have : q = i := by
          have := (List.getElem?_eq_some_iff.mp hq).1
          simp at this; omega
        subst this
        rw [hvl, Nat.sub_self] at hq
        obtain rfl := Option.some.inj hq
        have e : (memsOf Nm W n static)[q]? = some (memOf Nm W n static q) := by unfold memsOf; simp [hi]
        rw [e] at hmm
        obtain rfl := Option.some.inj hmm
        exact p3
  · rintro ρ' M' P' k' s' hsub ⟨hρ, ⟨vs, nn, rfl, hvl, hall⟩, hk'⟩ S'
    have S2 := S'.freeze (pre := []) (post := [])
    rw [upTo_len] at hvl
    exact next (.ref ml) ρ' k' s' _ hρ (fun p hp => List.mem_cons_of_mem _ (hsub p (List.mem_append_right _ hp))) ⟨ml, vs, nn, rfl, List.mem_cons_self, by rw [hvl]; simp [memsOf], fun q v mm a b => (hall q v mm a b).mono fun p hp => List.mem_cons_of_mem _ hp⟩ hk' S2
end

end
section
def clnOf (ks : List Str) (num : Str → List Int) : List (Str × List Int) := ks.map fun x => (x, num x)
theorem cln_keys (ks : List Str) (num : Str → List Int) : (clnOf ks num).map (·.1) = ks := by
  unfold clnOf; rw [List.map_map]; exact List.map_id ks
theorem cln_look {ks : List Str} (num : Str → List Int) {x : Str} (h : x ∈ ks) : lookT (clnOf ks num) x = some (num x) := by
  unfold lookT clnOf
  induction ks with
  | nil => cases h
  | cons y ks ih =>
    rw [List.map_cons, List.find?_cons]
    by_cases e : y = x
    · subst e; simp
    · have := ih ((List.mem_cons.mp h).resolve_left (Ne.symm e))
      simp only [e, decide_false, this]
theorem cln_none {ks : List Str} (num : Str → List Int) {x : Str} (h : x ∉ ks) : lookT (clnOf ks num) x = none := by
  unfold lookT clnOf
  rw [Option.map_eq_none_iff, List.find?_eq_none]
  intro p hp
  obtain ⟨y, hy, rfl⟩ := List.mem_map.mp hp
  simp only [decide_eq_true_eq]
  rintro rfl
  exact h hy
def msA (Nm : List Str) (W : List (List Str)) (many static : Nat) : List Mem := (List.range static).map (memOf Nm W many static)
def msB (Nm : List Str) (W : List (List Str)) (many static : Nat) : List Mem := (List.range (many - static)).map fun j => memOf Nm W many static (static + j)
theorem mems_split {Nm : List Str} {W : List (List Str)} {many static : Nat} (h : static ≤ many) : memsOf Nm W many static = msA Nm W many static ++ msB Nm W many static := by
  unfold memsOf msA msB
  obtain ⟨d, rfl⟩ := Nat.le.dest h
  rw [List.range_add, List.map_append, List.map_map, Nat.add_sub_cancel_left]
  rfl
theorem mems_names {Nm : List Str} {W : List (List Str)} {many static : Nat} (h : Nm.length = many) : (memsOf Nm W many static).map (·.name) = Nm := by
  unfold memsOf
  rw [List.map_map]
  refine List.ext_getElem (by simp [h]) fun i h1 h2 => ?_
  simp [memOf, nmAt, h2]
theorem rowsOf_eq {mems : List Mem} (h : ∀ mm ∈ mems, mm.topics.Nodup) (t : Str) : rowsOf mems t = (mems.filter fun mm => decide (t ∈ mm.topics)).map fun mm => (mm.own, mm.name) := by
  have one : ∀ (mm : Mem) (tps : List Str), tps.Nodup → rowsIn tps mm t = if t ∈ tps then [(mm.own, mm.name)] else [] := by
    intro mm tps nd
    unfold rowsIn
    induction tps with
    | nil => rfl
    | cons x tps ih =>
      rw [List.nodup_cons] at nd
      have ih := ih nd.2
      by_cases e : x = t
      · subst e
        rw [if_neg nd.1] at ih
        rw [List.filter_cons_of_pos (by simp), List.map_cons, ih, if_pos List.mem_cons_self]
      · rw [List.filter_cons_of_neg (by simpa using e), ih]
        by_cases e2 : t ∈ tps
        · rw [if_pos e2, if_pos (List.mem_cons_of_mem _ e2)]
        · rw [if_neg e2, if_neg (by rw [List.mem_cons, not_or]; exact ⟨Ne.symm e, e2⟩)]
  unfold rowsOf
  induction mems with
  | nil => rfl
  | cons mm mems ih =>
    rw [List.flatMap_cons, ih fun x hx => h x (List.mem_cons_of_mem _ hx), one mm _ (h mm List.mem_cons_self)]
    by_cases e : t ∈ mm.topics
    · rw [if_pos e, List.filter_cons_of_pos (by simpa using e)]; rfl
    · rw [if_neg e, List.filter_cons_of_neg (by simpa using e)]; rfl
theorem five_nd : five.Nodup := by decide
theorem mems_nd {Nm : List Str} {W : List (List Str)} {many static : Nat} (hs : ∀ w ∈ W, w.Sublist five) : ∀ mm ∈ memsOf Nm W many static, mm.topics.Nodup ∧ ∀ t ∈ mm.topics, t ∈ five := by
  intro mm hmm
  obtain ⟨k, hk, rfl⟩ := List.mem_map.mp hmm
  show ((W[k]?).getD []).Nodup ∧ ∀ t ∈ (W[k]?).getD [], t ∈ five
  cases h : W[k]? with
  | none => exact ⟨List.nodup_nil, fun t ht => by cases ht⟩
  | some w => exact ⟨(hs w (List.mem_of_getElem? h)).nodup five_nd, fun t ht => (hs w (List.mem_of_getElem? h)).subset ht⟩
abbrev L7 (c : Cx) (vm vst vn vc vw ve vt : Value) : List (Str × Value) := (Str.ofString "told", vt) :: L6 c vm vst vn vc vw ve
abbrev IsTold (c : Cx) (Nm : List Str) (W : List (List Str)) (many static : Nat) (ks : List Str) (num : Str → List Int) (keys : List Str) : Led → Value → Prop :=
  IsDict c Nm (fun x => IsRes (toldOf (gotOf (clnOf ks num) (msA Nm W many static) (msB Nm W many static) keys x)))
section
variable {c : Cx} {fa : Addr} {cd : Value} {mean : ExcName → Option Value} {mg mb : Str → Option Value} {s0 s : Shared} {ρ : Str → Option Value} {P : Led} {k : Int}
/-- told -/
theorem lawE {many static : Nat} {vm vst vn vc vw ve : Value} {Nm : List Str} {W : List (List Str)} {ks : List Str} {num : Str → List Int} {Q : Flow → Shared → Prop} (D : Deep c mean mg mb) (hdd : c.A.depth + 20 < recursionLimit) (huu : c.A.units + 200 < cLine) (S : LS c (CL c.L) s0 ρ [] [] P k s) (hl : Hs ρ (L6 c vm vst vn vc vw ve)) (h5 : many ≤ 5) (hst : static ≤ many) (hn : Nm.length = many) (hnd : Nm.Nodup) (hW5 : ∀ w ∈ W, w.Sublist five)
    (hks : ks.Nodup) (hk4 : ks.length ≤ 4) (h7 : ∀ x, (num x).length ≤ 7) (hvc : IsDict c ks (fun x => IsD (.list ((num x).map Dat.int))) P vc) (hve : IsMems (memsOf Nm W many static) P ve) (hk : k ≤ 500)
    (next : ∀ vt keys ρ' k' s' P', Hs ρ' (L7 c vm vst vn vc vw ve vt) → (∀ p ∈ P, p ∈ P') → keys.Nodup → (∀ t, rowsOf (memsOf Nm W many static) t ≠ [] ↔ t ∈ keys) → IsTold c Nm W many static ks num keys P' vt → k' ≤ k → LS c (CL c.L) s0 ρ' [] [] P' k' s' → WL c fa cd lw10 Q s') : WL c fa cd lw9 Q s := by
  delta lw9 stm9
  have hmn := mems_names (W := W) (static := static) hn
  have hml : (memsOf Nm W many static).length ≤ 5 := by simp [memsOf]; exact h5
  have hro := rowsOf_eq fun mm hmm => (mems_nd (Nm := Nm) (many := many) (static := static) hW5 mm hmm).1
  refine wpAny_execs_cons (wpAny_Assign_Name ?_ rfl)
  refine ls_told (b1 := 0) (b2 := 0) (cln := clnOf ks num) (mems := memsOf Nm W many static) (ms1 := msA Nm W many static) (ms2 := msB Nm W many static) (tops := five) S D hdd huu (fun R m => rd_glob D.toTops (by kernel_rfl) rfl rfl (by decide)) (fun m cs C hm => ?_) (fun m cs C hm => ?_) (by omega) rfl rfl rfl rfl (mems_split hst) ?_ ?_ (by rw [hmn]; exact hnd) hml (fun mm hmm => (mems_nd hW5 mm hmm).2) (by decide) (fun t => ?_) (fun t => ?_) (fun t ns h => ?_) fun v V k1 s1 hk1 S1 p1 => ?_
  · refine ev_callK (b1 := 0) (b2 := 0) D.X (by kernel_rfl) (f := .ref 122) (rd_glob D.toTops (by kernel_rfl) rfl rfl (by decide)) (ea1 (monoDict (c := c) (ks := ks) (C := fun x => IsD (.list ((num x).map Dat.int))) fun x => monoD _) ?_ rfl) (fun vs Y' hs pv => ?_) rfl rfl
    · refine ev_compD (b0 := 0) (B := fun x => [(Str.ofString "topic", .str x)]) rfl (by decide) rfl (by decide) (fun _ => rfl) (ei_keys D.hh (ev_name (rdc rfl (by decide) rfl C (hl _ _ rfl)) (monoDict (c := c) fun x => monoD _) hvc)) (by omega) hks (modules_low (topRead_of D.T).nolimit) (fun x => monoD _) (fun x _ => tgt_name rfl fun _ => rfl) (fun x hx C' oC m₂ Y' hs hC hB => ?_) fun x hx C' oC m₂ Y' hs hC hB => ?_
      · obtain ⟨u, hu1, hu2⟩ := hB _ List.mem_cons_self
        exact ev_nameD (rd_own (x := Str.ofString "topic") rfl rfl (by decide) List.mem_cons_self hC hu1) hu2
      · obtain ⟨u, hu1, hu2⟩ := hB _ List.mem_cons_self
        refine ev_callT (b1 := 0) (b2 := 0) (rd_cbuilt D.toTops (by kernel_rfl) (by boot_fast) (by decide) rfl rfl rfl rfl (by decide)) (ea1 (monoD (.list ((num x).map Dat.int))) ?_ rfl) (fun vs Y' hs pv => ?_) rfl rfl
        · refine ev_ditem (b1 := 0) (b2 := 0) (ks := ks) (C := fun x => IsD (.list ((num x).map Dat.int))) (x := x) (monoD _) (ev_name (rdf rfl rfl (by decide) rfl rfl inR1 C (hl _ _ rfl)) (monoDict (c := c) fun x => monoD _) (monoDict (c := c) (fun x => monoD _) _ _ _ hs hvc)) (ev_nameD (rd_own (x := Str.ofString "topic") rfl rfl (by decide) List.mem_cons_self hC hu1) hu2) hx fun _ _ => rfl
        · obtain ⟨v, rfl, hv⟩ := pv
          exact ec_list hv (by rw [List.length_map]; have := h7 x; omega)
    · obtain ⟨v, rfl, hv⟩ := pv
      refine ec_clu D (by rw [cln_keys]; exact hks) ?_
      rw [cln_keys]
      obtain ⟨a, o, kvs, e, hm, hl, hd, hk, hc⟩ := hv
      refine ⟨a, o, kvs, e, hm, hl, hd, hk, fun x u hu => ?_⟩
      have hx : x ∈ ks := by
        rw [← hk]
        unfold valueAt at hu
        obtain ⟨q, hq, _⟩ := Option.map_eq_some_iff.mp hu
        have h1 := List.find?_some hq
        simp only [decide_eq_true_eq] at h1
        exact List.mem_map.mpr ⟨q, List.mem_of_find?_eq_some hq, h1⟩
      show IsD (Dat.list (((lookT (clnOf ks num) x).getD []).map Dat.int)) Y' u
      rw [cln_look num hx]
      exact hc x u hu
  · exact ev_name (rdl rfl (by decide) rfl hm (hl _ _ rfl)) (monoMems _) hve
  · intro mm hmm
    obtain ⟨k, hk, rfl⟩ := List.mem_map.mp hmm
    exact ⟨_, if_pos (List.mem_range.mp hk)⟩
  · intro mm hmm
    obtain ⟨k, hk, rfl⟩ := List.mem_map.mp hmm
    exact if_neg (by omega)
  · rw [hro, List.length_map]
    exact Nat.le_trans (List.length_filter_le _ _) hml
  · rw [hro, List.map_map]
    have : ((memsOf Nm W many static).map (·.name)).Nodup := by rw [hmn]; exact hnd
    exact (List.filter_sublist.map _).nodup this
  · by_cases hx : t ∈ ks
    · rw [cln_look num hx] at h
      obtain rfl := Option.some.inj h
      exact h7 t
    · rw [cln_none num hx] at h; cases h
  · obtain ⟨keys, a, b, h⟩ := p1
    rw [hmn] at h
    exact S1.store rfl (cl_nodup _) (heldc rfl rfl) fun s2 S2 => next v keys _ k1 s2 _ hl.add (fun p hp => List.mem_append_right _ hp) a b h (by omega) S2
end

end
section
theorem cells_keep {ρ : Str → Option Value} {x : Str} {v : Value} {l : List (Str × Addr)} {zs : Led} (hz : CellsAre ρ l zs) : l.lookup x = none → CellsAre (upd ρ x v) l zs := by
  induction hz with
  | nil => intro _; exact .nil
  | @cons n' c' o' cs' cells' hd' _ ih =>
    intro hx
    rw [List.lookup_cons] at hx
    by_cases e : x = n'
    · subst e
      rw [beq_self_eq_true] at hx
      cases hx
    · rw [beq_eq_false_iff_ne.mpr e] at hx
      exact .cons (hd'.trans (by rw [upd_ne (Ne.symm e)])) (ih hx)
abbrev pOW (q : Str × Addr) : Addr × Obj := (q.2, listOf #[] 0)
inductive InvD (c : Cx) (Z : Led) (b : Int) (ks : List Str) (i : Nat) (ys : List (Str × Value)) (nx : Led) : Prop
  | mk (qs : List (Str × Addr)) (k' t nn) (x0 : nx = (c.hand, listOf #[.ref c.sc, .int k' t] nn) :: (qs.map pOW ++ Z)) (x1 : 0 ≤ k') (x2 : k' ≤ b) (x3 : Fresh (qs.map pOW) Z) (x4 : ((qs.map pOW).map (·.1)).Nodup) (x5 : ∀ p ∈ qs.map pOW ++ Z, p.1 ≠ c.hand)
    (x6 : ys = qs.map pKV) (x7 : qs.map (·.1) = ks.take i) : InvD c Z b ks i ys nx
section
variable {c : Cx} {cn : Str} {sc : Scope} {a : Addr} {ccd : Value} {cl : List (Str × Addr)} {s0 s : Shared} {ρ : Str → Option Value} {P : Led} {k : Int}
/-- y = {n: [] for n in ..}: the lists stay owned -/
theorem ls_due {y n : Str} {py p1 p2 lp pos spos : Pos} {i0 : Expr} {scope : Scope} {clc : List (Str × Addr)} {rest : List Stmt} {ks : List Str} {Q : Flow → Shared → Prop} (S : LS c cl s0 ρ [] [] P k s)
    (hsw : swapsWith (.DictComp (.Name n p1) (.List [] lp) [⟨.Name n p2, i0, [], 0⟩] scope pos) (some (.Name y py)) spos.line (envX cn sc c.L a ccd cl) = pure true)
    (hclos : closureFor scope (envX cn sc c.L a ccd cl) = pure clc) (hcell : ∀ y ∈ scope.names, y.2 ≠ .cell) (hkind : scope.kind = .function) (hnames : ∀ y ∈ scope.names, y.2 = .local → scope.names.lookup y.1 = some .local) (hs : ∀ x, foldedSetIterable i0 (envX cn sc c.L a ccd cl) x = pure x)
    (hy : (envX cn sc c.L a ccd cl).kindOf y = some .local) (hyl : cl.lookup y = none) (hp : ((envX cn sc c.L a ccd cl).scope.kind == .class || ((envX cn sc c.L a ccd cl).scope.kind == .module && (envX cn sc c.L a ccd cl).locals != (envX cn sc c.L a ccd cl).globals)) = false)
    (hloc : ∀ C, (compEnvC scope clc C (envX cn sc c.L a ccd cl)).kindOf n = some .local) (hdb : (n == ("__debug__" : Str)) = false)
    (hi : ∀ m cs, CellsAre ρ cl cs → (∀ x, cl.lookup x = none → m x = ρ x) → EvI c ((cs ++ ([] ++ [])) ++ P) P m 0 (envX cn sc c.L a ccd cl) i0 ks.length (ItemsD (ks.map Dat.str))) (hl : ks.length ≤ 1000) (nd : ks.Nodup) (hbig : sysModules < c.h₀.objs.size) (hk : k ≤ 890)
    (next : ∀ dd od (qs : List (Str × Addr)) k' s' V, k' ≤ k → qs.map (·.1) = ks → LS c cl s0 (upd ρ y (.ref dd)) [] (qs.map pOW) ((dd, od) :: (V ++ P)) k' s' → (dd == sysModules) = false → od.IsDictOf (SK c) (qs.map pKV) → wpAny (model PRG c.w) c.A (execs rest (envX cn sc c.L a ccd cl)) Q (fun _ _ => False) s') :
    wpAny (model PRG c.w) c.A (execs (.Assign [.Name y py] (.DictComp (.Name n p1) (.List [] lp) [⟨.Name n p2, i0, [], 0⟩] scope pos) spos :: rest) (envX cn sc c.L a ccd cl)) Q (fun _ _ => False) s := by
  obtain ⟨m, cs, hp0, tk0, rfl, St0, C0, hm, ndc, dj⟩ := S
  refine wpAny_execs_cons (jcompDA rfl hsw St0.F hclos hcell hkind hnames hy hp ?_ hs)
  have hi := hi m cs C0 hm
  simp only [List.append_nil] at St0 hi ndc dj
  refine hi _ (cs ++ P) P k _ (fun _ h => h) (fun _ h => h) (fun p hp => List.mem_append_right _ hp) St0 (by omega) fun I cls keep V k1 h1 tk1 P' J hP' hkeep hk1 S1 f1 lI hI => ?_
  obtain ⟨⟨t1, n1, N1⟩, o1⟩ := S1.N
  refine ⟨I, cls, ks.length, P', keep, m, _, InvD c (V ++ (cs ++ P)) k1 ks, rfl, J, S1.F, N1, hbig, ?_, ?_, ?_, ?_, ?_, ?_⟩
  · intro p hp
    rcases List.mem_cons.mp hp with rfl | hp
    · exact hI
    · exact lI p hp
  · rintro i ys nx ⟨qs, k', t, nn, rfl, _⟩ p hp
    refine List.mem_cons_of_mem _ (List.mem_append_right _ ?_)
    have := hkeep p hp
    simp only [List.mem_append] at this ⊢
    rcases this with h | h <;> simp [h]
  · exact ⟨[], k1, t1, n1, rfl, S1.k0, by omega, Fresh.nil, List.nodup_nil, o1, rfl, rfl⟩
  · rintro i ys nx ⟨qs, k', t, nn, rfl, _, _, _, _, _, rfl, he⟩
    have := congrArg List.length he
    rw [List.length_map, List.length_take] at this
    rw [List.length_map]; omega
  · rintro i v ys nx h tk o D C oC m₂ oD hi' hv ⟨qs, k', t, nn, rfl, hk0, hk', fW, nW, oW, rfl, he⟩ ho hC hdD F' N' oI oC' oD' hID hDC
    obtain ⟨d, hdi, hdv⟩ := hP' i v hi' hv
    rw [List.getElem?_map] at hdi
    obtain ⟨x, hx, rfl⟩ := Option.map_eq_some_iff.mp hdi
    have S2 : St c m ((C, oC) :: ((I, o) :: (D, oD) :: (qs.map pOW ++ (V ++ (cs ++ P))))) k' { s0 with heap := h, toks := tk } := by
      refine ⟨F', ⟨⟨t, nn, jsub N' fun p hp => ?_⟩, fun p hp => ?_⟩, hk0⟩
      · simp only [List.mem_cons] at hp ⊢
        rcases hp with h | h | h | h | h <;> simp [h]
      · simp only [List.mem_cons] at hp
        rcases hp with h | h | h | h
        · rw [h]; exact (oC' _ List.mem_cons_self).symm
        · rw [h]; exact (oI _ List.mem_cons_self).symm
        · rw [h]; exact (oD' _ List.mem_cons_self).symm
        · exact oW p h
    have offC : ∀ p ∈ (I, o) :: (D, oD) :: (qs.map pOW ++ (V ++ (cs ++ P))), p.1 ≠ C := by
      intro p hp
      simp only [List.mem_cons] at hp
      rcases hp with h | h | h
      · rw [h]; exact Nat.ne_of_lt (Nat.lt_trans hID hDC)
      · rw [h]; exact Nat.ne_of_lt hDC
      · exact oC' p (List.mem_cons_of_mem _ h)
    have hVP : ∀ p ∈ V ++ P, p ∈ (I, o) :: (D, oD) :: (qs.map pOW ++ (V ++ (cs ++ P))) := fun p hp => by
      simp only [List.mem_append, List.mem_cons] at hp ⊢
      rcases hp with h | h <;> simp [h]
    refine tgt_name (d := .str x) hkind hloc _ _ (V ++ P) k' m C oC m₂ v _ S2 offC hC hVP hdv fun h3 tk3 oC3 m3 S3 hC3 _ hB3 => ?_
    refine jtests_nil ?_
    rw [if_pos rfl]
    obtain ⟨u, hu1, hu2⟩ := hB3 _ List.mem_cons_self
    obtain ⟨tx, rfl⟩ := dstr hu2
    refine rd_own hkind (hloc C) hdb List.mem_cons_self hC3 hu1 _ _ _ _ _ (fun p hp => hp) S3 ?_
    refine List_ (wpAny_items_nil ?_)
    obtain ⟨⟨t3, n3, N3⟩, o3⟩ := S3.N
    refine newList_K S3.F N3 (fun E h4 F4 N4 lE => ?_) (by rw [sizeLine_eq]; decide)
    refine ⟨x, strKind_is _ _ _ _, ?_⟩
    have hxn : x ∉ (qs.map pKV).map (·.1) := by
      have e0 : (qs.map pKV).map (·.1) = qs.map (·.1) := by rw [List.map_map]; rfl
      rw [e0, he]
      intro hin
      obtain ⟨j, hj, e⟩ := List.mem_take_iff_getElem.mp hin
      obtain ⟨hil, ei⟩ := List.getElem?_eq_some_iff.mp hx
      have := (List.getElem_inj (xs := ks) nd (i := j) (j := i) (h₀ := by omega) (h₁ := hil)).mp (by rw [e, ei])
      omega
    have lE' : ∀ q ∈ (C, oC3) :: ((I, o) :: (D, oD) :: (qs.map pOW ++ (V ++ (cs ++ P)))), q.1 ≠ E := fun q hq => Nat.ne_of_lt (lE q (List.mem_cons_of_mem _ hq))
    have hE : c.hand ≠ E := Nat.ne_of_lt (lE _ List.mem_cons_self)
    refine JE.intro ((c.hand, listOf #[.ref c.sc, .int k' t3] n3) :: ((qs ++ [(x, E)]).map pOW ++ (V ++ (cs ++ P)))) F4 N4 (fun p hp => ?_) hC3 (fun p hp => ?_) ⟨qs ++ [(x, E)], k', t3, n3, rfl, hk0, hk', fun p hp q hq => ?_, ?_, fun p hp => ?_, ?_, ?_⟩
    · simp only [List.mem_cons, List.mem_append, List.map_append, List.map_cons, List.map_nil, List.not_mem_nil, or_false] at hp ⊢
      rcases hp with h | h | h | h | ((h | h) | h) <;> simp [h]
    · rcases List.mem_cons.mp hp with rfl | hp
      · exact ⟨oI (c.hand, listOf #[.ref c.sc, .int k' t] nn) List.mem_cons_self, oC' (c.hand, listOf #[.ref c.sc, .int k' t] nn) List.mem_cons_self, oD' (c.hand, listOf #[.ref c.sc, .int k' t] nn) List.mem_cons_self⟩
      · simp only [List.mem_append, List.map_append, List.map_cons, List.map_nil, List.mem_singleton] at hp
        rcases hp with (h | h) | h
        · exact ⟨oI p (by simp [h]), oC' p (by simp [h]), oD' p (by simp [h])⟩
        · rw [h]; exact ⟨(lE' (I, o) (by simp)).symm, (lE' (C, oC3) (by simp)).symm, (lE' (D, oD) (by simp)).symm⟩
        · have h2 : p ∈ V ++ (cs ++ P) := by simp only [List.mem_append]; exact h
          exact ⟨oI p (List.mem_cons_of_mem _ (List.mem_append_right _ h2)), oC' p (List.mem_cons_of_mem _ (List.mem_append_right _ h2)), oD' p (List.mem_cons_of_mem _ (List.mem_append_right _ h2))⟩
    · rw [List.map_append] at hp
      rcases List.mem_append.mp hp with h | h
      · exact fW p h q hq
      · rw [List.mem_singleton.mp h]
        exact lE' q (by simp only [List.mem_cons, List.mem_append] at hq ⊢; rcases hq with h | h | h <;> simp [h])
    · rw [List.map_append, List.map_append]
      refine List.nodup_append.mpr ⟨nW, by simp, fun z hz z' hz' => ?_⟩
      obtain ⟨q, hq, rfl⟩ := List.mem_map.mp hz
      have : z' = E := by simpa using hz'
      rw [this]
      exact lE' q (List.mem_cons_of_mem _ (List.mem_cons_of_mem _ (List.mem_cons_of_mem _ (List.mem_append_left _ hq))))
    · simp only [List.mem_append, List.map_append, List.map_cons, List.map_nil, List.mem_singleton] at hp
      rcases hp with (h | h) | h
      · exact oW p (List.mem_append_left _ h)
      · rw [h]; exact hE.symm
      · exact oW p (List.mem_append_right _ (by simp only [List.mem_append]; exact h))
    · rw [stored_new hxn, List.map_append]; rfl
    · rw [List.map_append, he, List.take_add_one, hx]; rfl
  · rintro D ys nx h tk oD ⟨qs, k', t, nn, rfl, hk0, hk', fW, nW, oW, rfl, he⟩ hdD hlo F' N' oD' lD
    rw [List.take_length] at he
    refine next D oD qs k' _ V (by omega) he ⟨_, cs, h, tk, rfl, ⟨F', ⟨⟨t, nn, jsub N' fun p hp => ?_⟩, fun p hp => ?_⟩, hk0⟩, cells_keep C0 hyl, fun z hz => ?_, ?_, fun p hp q hq => ?_⟩ hlo hdD
    · simp only [List.nil_append, List.mem_cons, List.mem_append] at hp ⊢
      rcases hp with h | (h | h) | h | h | h <;> simp [h]
    · simp only [List.nil_append, List.mem_cons, List.mem_append] at hp
      rcases hp with (h | h) | h | h | h
      · exact oW p (by simp [h])
      · exact oW p (List.mem_append_left _ h)
      · rw [h]; exact (oD' _ List.mem_cons_self).symm
      · exact oW p (by simp [h])
      · exact oW p (by simp [h])
    · show (if z = y then some (.ref D) else m z) = if z = y then some (.ref D) else ρ z
      rw [hm z hz]
    · rw [List.nil_append, List.map_append]
      refine List.nodup_append.mpr ⟨ndc, nW, fun z hz z' hz' => ?_⟩
      obtain ⟨q, hq, rfl⟩ := List.mem_map.mp hz
      obtain ⟨q', hq', rfl⟩ := List.mem_map.mp hz'
      exact fW q' hq' q (by simp [hq])
    · simp only [List.nil_append, List.mem_append] at hq
      rcases List.mem_cons.mp hp with rfl | hp
      · exact oD' q (List.mem_cons_of_mem _ (by simp only [List.mem_append]; rcases hq with h | h <;> simp [h]))
      · rcases List.mem_append.mp hp with hv | hv
        · rcases hq with h | h
          · exact f1 p hv q (by simp [h])
          · exact (fW q h p (by simp [hv])).symm
        · rcases hq with h | h
          · exact dj p hv q h
          · exact (fW q h p (by simp [hv])).symm
end

end
section
theorem upTo_pick {a n : Nat} {T : Dat → Bool} {g : Dat → Dat} {T' : Nat → Bool} {g' : Nat → Dat} (hT : ∀ k : Nat, T (.int k) = T' k) (hg : ∀ k : Nat, g (.int k) = g' k) : ((upTo a n).filter T).map g = (((List.range n).map (a + ·)).filter T').map g' := by
  unfold upTo
  generalize List.range n = l
  induction l with
  | nil => rfl
  | cons i l ih =>
    have e : ((a : Int) + (i : Int)) = ((a + i : Nat) : Int) := by omega
    rw [List.map_cons, List.map_cons, e, List.filter_cons, List.filter_cons, hT]
    cases T' (a + i)
    · exact ih
    · simp only [if_true, List.map_cons, hg]
      exact congrArg _ ih
/-- the law's own reckoning -/
def wkAt (W : List (List Str)) (k : Nat) : List Str := (W[k]?).getD []
def firstOf (Nm : List Str) (W : List (List Str)) (many static : Nat) (t : Str) : List (Str × Str) :=
  jsrt ltP ((((List.range static).map (0 + ·)).filter fun k => decide (t ∈ wkAt W k)).map fun k => (Str.ofString "g" ++ nmAt Nm (many - 1 - k), nmAt Nm k))
def otherOf (Nm : List Str) (W : List (List Str)) (many static : Nat) (t : Str) : List Str :=
  jsrt ltS ((((List.range (many - static)).map (static + ·)).filter fun k => decide (t ∈ wkAt W k)).map (nmAt Nm))
def ordD (Nm : List Str) (W : List (List Str)) (many static : Nat) (t : Str) : List Str := (firstOf Nm W many static t).map (·.2) ++ otherOf Nm W many static t
def szOf (l n j : Nat) : Nat := (l + n - j - 1) / (n - j)
def restAt (r : List Int) (n : Nat) : Nat → List Int
  | 0 => r
  | j + 1 => (restAt r n j).drop (szOf (restAt r n j).length n j)
def cutOf (r : List Int) (n j : Nat) : List Int := (restAt r n j).take (szOf (restAt r n j).length n j)
def pcD (ord : List Str) (r : List Int) (t x : Str) (j : Nat) : List (Str × List Int) :=
  match ord.idxOf? x with
  | some q => if q < j then [(t, cutOf r ord.length q)] else []
  | none => []
def dueOf (Nm : List Str) (W : List (List Str)) (many static : Nat) (num : Str → List Int) (ts : List Str) (x : Str) : List (Str × List Int) :=
  ts.flatMap fun t => pcD (ordD Nm W many static t) (sortZ (num t)) t x (ordD Nm W many static t).length
theorem pcD_zero (ord : List Str) (r : List Int) (t x : Str) : pcD ord r t x 0 = [] := by
  unfold pcD
  split <;> simp
theorem pcD_step {ord : List Str} (nd : ord.Nodup) {j : Nat} {y : Str} (h : ord[j]? = some y) (r : List Int) (t x : Str) : pcD ord r t x (j + 1) = pcD ord r t x j ++ (if x = y then [(t, cutOf r ord.length j)] else []) := by
  obtain ⟨hj, ej⟩ := List.getElem?_eq_some_iff.mp h
  unfold pcD
  cases hq : ord.idxOf? x with
  | none =>
    have : x ≠ y := by
      rintro rfl
      have h1 := List.idxOf?_eq_none_iff.mp hq
      exact h1 (ej ▸ List.getElem_mem hj)
    simp [this]
  | some q =>
    obtain ⟨hq1, hq2, _⟩ := List.findIdx?_eq_some_iff_getElem.mp (by simpa [List.idxOf?] using hq)
    have hq2 : ord[q] = x := by simpa using hq2
    dsimp only
    by_cases e : x = y
    · subst e
      have hqj : q = j := (List.getElem_inj (xs := ord) nd (h₀ := hq1) (h₁ := hj)).mp (by rw [hq2, ej])
      subst hqj
      simp
    · have hqj : q ≠ j := by
        rintro rfl
        exact e (hq2.symm.trans ej)
      rw [if_neg e, List.append_nil]
      by_cases h1 : q < j
      · rw [if_pos h1, if_pos (by omega)]
      · rw [if_neg h1, if_neg (by omega)]

end
section
abbrev L8 (c : Cx) (vm vst vn vc vw ve vt vd : Value) : List (Str × Value) := (Str.ofString "due", vd) :: L7 c vm vst vn vc vw ve vt
def tstD (W : List (List Str)) (t : Str) : Dat → Bool
  | .int z => decide (t ∈ wkAt W z.toNat)
  | _ => false
def gFst (Nm : List Str) (many : Nat) : Dat → Dat
  | .int z => rowT (Str.ofString "g" ++ nmAt Nm (many - 1 - z.toNat), nmAt Nm z.toNat)
  | d => d
def gNm (Nm : List Str) : Dat → Dat
  | .int z => .str (nmAt Nm z.toNat)
  | d => d
def dSnd : Dat → Dat
  | .tuple [_, x] => x
  | d => d
theorem pick_len {α : Type} (T : Nat → Bool) (f : Nat → α) (a n : Nat) : ((((List.range n).map (a + ·)).filter T).map f).length ≤ n := by
  rw [List.length_map]
  exact Nat.le_trans (List.length_filter_le _ _) (by simp)
theorem range_names {Nm : List Str} {many : Nat} (h : Nm.length = many) : (List.range many).map (nmAt Nm) = Nm :=
  List.ext_getElem (by simp [h]) fun i h1 h2 => by simp [nmAt, h2]
theorem due_perm {Nm : List Str} {W : List (List Str)} {many static : Nat} (hst : static ≤ many) (h5 : many ≤ 5) (t : Str) :
    (ordD Nm W many static t).Perm (((List.range many).filter fun k => decide (t ∈ wkAt W k)).map (nmAt Nm)) := by
  have h1 := (jsrt_perm ltP_ok (l := (((List.range static).map (0 + ·)).filter fun k => decide (t ∈ wkAt W k)).map fun k => (Str.ofString "g" ++ nmAt Nm (many - 1 - k), nmAt Nm k)) (Nat.le_trans (pick_len _ _ _ _) (by omega))).map (·.2)
  have h2 := jsrt_perm ltS_ok (l := (((List.range (many - static)).map (static + ·)).filter fun k => decide (t ∈ wkAt W k)).map (nmAt Nm)) (Nat.le_trans (pick_len _ _ _ _) (by omega))
  refine (h1.append h2).trans ?_
  obtain ⟨d, rfl⟩ := Nat.le.dest hst
  rw [List.range_add, List.filter_append, List.map_append, Nat.add_sub_cancel_left, List.map_map]
  have e0 : (List.range static).map (0 + ·) = List.range static := by simp
  rw [e0]
  exact .refl _
theorem due_sub {Nm : List Str} {W : List (List Str)} {many static : Nat} (hn : Nm.length = many) (hst : static ≤ many) (h5 : many ≤ 5) (t : Str) :
    ∃ l, (ordD Nm W many static t).Perm l ∧ l.Sublist Nm := by
  refine ⟨_, due_perm hst h5 t, ?_⟩
  conv => rhs; rw [← range_names hn]
  exact (List.filter_sublist).map _
theorem due_mem {Nm : List Str} {W : List (List Str)} {many static : Nat} (hn : Nm.length = many) (hst : static ≤ many) (h5 : many ≤ 5) {t x : Str} (h : x ∈ ordD Nm W many static t) : x ∈ Nm := by
  obtain ⟨l, h1, h2⟩ := due_sub (W := W) hn hst h5 t
  exact h2.subset (h1.subset h)
theorem due_nd {Nm : List Str} {W : List (List Str)} {many static : Nat} (hn : Nm.length = many) (hnd : Nm.Nodup) (hst : static ≤ many) (h5 : many ≤ 5) (t : Str) : (ordD Nm W many static t).Nodup := by
  obtain ⟨l, h1, h2⟩ := due_sub (W := W) hn hst h5 t
  exact h1.symm.nodup (h2.nodup hnd)
theorem due_len {Nm : List Str} {W : List (List Str)} {many static : Nat} (hn : Nm.length = many) (hst : static ≤ many) (h5 : many ≤ 5) (t : Str) : (ordD Nm W many static t).length ≤ 5 := by
  obtain ⟨l, h1, h2⟩ := due_sub (W := W) hn hst h5 t
  rw [h1.length_eq]
  exact Nat.le_trans h2.length_le (by omega)
theorem restAt_len {r : List Int} {n j : Nat} : (restAt r n j).length ≤ r.length := by
  induction j with
  | zero => exact Nat.le_refl _
  | succ j ih => rw [restAt, List.length_drop]; omega
theorem sz_int {l n j : Nat} (hj : j < n) : ((l : Int) + (n : Int) - (j : Int) - 1).fdiv ((n : Int) - (j : Int)) = ((szOf l n j : Nat) : Int) := by
  rw [Int.fdiv_eq_ediv_of_nonneg _ (by omega)]
  have e1 : (l : Int) + (n : Int) - (j : Int) - 1 = ((l + n - j - 1 : Nat) : Int) := by omega
  have e2 : (n : Int) - (j : Int) = ((n - j : Nat) : Int) := by omega
  rw [e1, e2]; rfl
abbrev owD (vf : Str → List Value) (nf : Str → Nat) (q : Str × Addr) : Addr × Obj := (q.2, listOf (List.toArray (vf q.1)) (nf q.1))
section
variable {c : Cx} {fa : Addr} {cd : Value} {mean : ExcName → Option Value} {mg mb : Str → Option Value} {s0 s : Shared} {ρ : Str → Option Value} {P : Led} {k : Int}
theorem upTo_mem {a n : Nat} {d : Dat} (h : d ∈ upTo a n) : ∃ k : Nat, a ≤ k ∧ k < a + n ∧ d = .int (k : Int) := by
  obtain ⟨i, hi, rfl⟩ := List.mem_map.mp h
  exact ⟨a + i, by omega, by have := List.mem_range.mp hi; omega, by simp⟩
theorem strs_ok {l w : List Str} (h : ∀ x ∈ w, x ∈ l) (ok : ∀ x ∈ l, kqdOk 8 (.str x) = true) : ∀ d ∈ w.map Dat.str, kqdOk 8 d = true := fun d hd => by
  obtain ⟨x, hx, rfl⟩ := List.mem_map.mp hd
  exact ok x (h x hx)
theorem five_ok : ∀ x ∈ five, kqdOk 8 (.str x) = true := by decide +kernel
theorem topics_ok : ∀ x ∈ topics4, kqdOk 8 (.str x) = true := by decide +kernel
theorem wk_sub {W : List (List Str)} (h : ∀ w ∈ W, w.Sublist five) (k : Nat) : (wkAt W k).Sublist five := by
  unfold wkAt
  cases e : W[k]? with
  | none => exact List.nil_sublist _
  | some w => exact h w (List.mem_of_getElem? e)
theorem mem_strs {x : Str} {l : List Str} : Dat.str x ∈ l.map Dat.str ↔ x ∈ l := by
  constructor
  · intro h
    obtain ⟨y, hy, e⟩ := List.mem_map.mp h
    cases e; exact hy
  · exact fun h => List.mem_map.mpr ⟨x, h, rfl⟩
theorem W_get' {W : List (List Str)} {k : Nat} (h : k < W.length) : (W.map dStrs)[k]? = some (dStrs (wkAt W k)) := W_get h
theorem fst_inj {qs : List (Str × Addr)} (nd : (qs.map (·.1)).Nodup) {y : Str} {b b' : Addr} (h : (y, b) ∈ qs) (h' : (y, b') ∈ qs) : b' = b := by
  induction qs with
  | nil => cases h
  | cons q qs ih =>
    rw [List.map_cons, List.nodup_cons] at nd
    rcases List.mem_cons.mp h with e | h1 <;> rcases List.mem_cons.mp h' with e' | h2
    · rw [← e] at e'; exact (Prod.mk.inj e').2
    · exact absurd (List.mem_map.mpr ⟨_, h2, rfl⟩) (by rw [← e] at nd; exact nd.1)
    · exact absurd (List.mem_map.mpr ⟨_, h1, rfl⟩) (by rw [← e'] at nd; exact nd.1)
    · exact ih nd.2 h1 h2
theorem pcD_len (ord : List Str) (r : List Int) (t x : Str) (j : Nat) : (pcD ord r t x j).length ≤ 1 := by
  unfold pcD
  split
  · split <;> simp
  · simp
theorem due_le (Nm : List Str) (W : List (List Str)) (many static : Nat) (num : Str → List Int) (ts : List Str) (x : Str) : (dueOf Nm W many static num ts x).length ≤ ts.length := by
  unfold dueOf
  induction ts with
  | nil => exact Nat.le_refl _
  | cons t ts ih =>
    rw [List.flatMap_cons, List.length_append, List.length_cons]
    have := pcD_len (ordD Nm W many static t) (sortZ (num t)) t x (ordD Nm W many static t).length
    omega
theorem due_step {Nm : List Str} {W : List (List Str)} {many static : Nat} {num : Str → List Int} {ts : List Str} {i : Nat} {t : Str} (h : ts[i]? = some t) (x : Str) :
    dueOf Nm W many static num (ts.take (i + 1)) x = dueOf Nm W many static num (ts.take i) x ++ pcD (ordD Nm W many static t) (sortZ (num t)) t x (ordD Nm W many static t).length := by
  unfold dueOf
  rw [List.take_add_one, h, Option.toList_some, List.flatMap_append]
  simp
theorem LS.freezeAll {cl : List (Str × Addr)} {M : Led} : ∀ {P : Led}, LS c cl s0 ρ [] M P k s → ∃ P2, (∀ p ∈ P, p ∈ P2) ∧ (∀ p ∈ M, p ∈ P2) ∧ LS c cl s0 ρ [] [] P2 k s := by
  induction M with
  | nil => exact fun {P} S => ⟨P, fun _ h => h, fun _ h => absurd h List.not_mem_nil, S⟩
  | cons p M ih =>
    intro P S
    obtain ⟨P2, h1, h2, S2⟩ := ih (LS.freeze (pre := []) (post := M) (b := p.1) (o := p.2) S)
    refine ⟨P2, fun q hq => h1 q (List.mem_cons_of_mem _ hq), fun q hq => ?_, S2⟩
    rcases List.mem_cons.mp hq with rfl | hq
    · exact h1 _ List.mem_cons_self
    · exact h2 q hq
/-- due, one topic's turn -/
theorem lawF {many static : Nat} {t1 t2 : Tok} {vn vc vw ve vt : Value} {Nm : List Str} {W : List (List Str)} {ks : List Str} {num : Str → List Int} {Q : Flow → Shared → Prop} (D : Deep c mean mg mb) (S : LS c (CL c.L) s0 ρ [] [] P k s) (hl : Hs ρ (L7 c (.int many t1) (.int static t2) vn vc vw ve vt))
    (h5 : many ≤ 5) (hst : static ≤ many) (hn : Nm.length = many) (hnd : Nm.Nodup) (hnl : ∀ x ∈ Nm, x.length ≤ 10) (hW : W.length = many) (hW5 : ∀ w ∈ W, w.Sublist five) (hks : ∀ x ∈ ks, x ∈ topics4) (hk4 : ks.length ≤ 4) (h7 : ∀ x, (num x).length ≤ 7)
    (hvn : DatIn P vn (dStrs Nm)) (hvw : DatIn P vw (.list (W.map dStrs))) (hvc : IsDict c ks (fun x => IsD (.list ((num x).map Dat.int))) P vc) (hk : k ≤ 600)
    (next : ∀ vd ρ' k' s' P', Hs ρ' (L8 c (.int many t1) (.int static t2) vn vc vw ve vt vd) → (∀ p ∈ P, p ∈ P') → IsDict c Nm (fun x => IsD (.list ((dueOf Nm W many static num (jsrt ltS ks) x).map dPair))) P' vd → k' ≤ k → LS c (CL c.L) s0 ρ' [] [] P' k' s' → WL c fa cd lw12 Q s') : WL c fa cd lw10 Q s := by
  delta lw10 stm10
  refine ls_due (ks := Nm) S rfl rfl (by decide) rfl (by decide) (fun _ => rfl) rfl rfl rfl (fun _ => rfl) (by decide) (fun m cs C hm => ?_) (by omega) hnd (modules_low (topRead_of D.T).nolimit) (by omega) fun dd od qs k1 s1 V hk1 hq S1 hlo hod => ?_
  · have := ei_list (b := 0) (ds := Nm.map Dat.str) D.hh (ev_nameD (pos := ⟨122, 32, 122, 37⟩) (rdc (P := P) (X := [] ++ []) (m := m) (fa := fa) (cd := cd) rfl (by decide) rfl C (hl (Str.ofString "names") _ rfl)) hvn)
    rw [List.length_map] at this
    exact this
  have h1 := hl.add (x := Str.ofString "due") (v := .ref dd)
  have hk4' : (jsrt ltS ks).length ≤ 4 := by rw [jsrt_len ltS_ok (by omega)]; exact hk4
  have hkm : ∀ x ∈ jsrt ltS ks, x ∈ ks := fun x hx => (jsrt_perm ltS_ok (l := ks) (by omega)).subset hx
  obtain ⟨ts, hts⟩ : ∃ ts, ts = jsrt ltS ks := ⟨_, rfl⟩
  rw [← hts] at hk4' hkm next
  have hP1 : ∀ p ∈ P, p ∈ (dd, od) :: (V ++ P) := fun p hp => List.mem_cons_of_mem _ (List.mem_append_right _ hp)
  have hdict : ∀ P' : Led, (dd, od) ∈ P' → IsDict c Nm (fun x _ u => ∃ b, (x, b) ∈ qs ∧ u = .ref b) P' (.ref dd) := fun P' hm => by
    refine ⟨dd, od, qs.map pKV, rfl, hm, hlo, hod, by rw [List.map_map, ← hq]; rfl, fun x u hu => ?_⟩
    unfold valueAt at hu
    obtain ⟨q, hq1, rfl⟩ := Option.map_eq_some_iff.mp hu
    have h1 := List.find?_some hq1
    obtain ⟨q0, hq0, rfl⟩ := List.mem_map.mp (List.mem_of_find?_eq_some hq1)
    simp only [decide_eq_true_eq] at h1
    exact ⟨q0.2, by rw [← h1]; exact hq0, rfl⟩
  delta lw11 stm11
  refine ls_for (b := 0) (PN := fun ds => ds = ts.map Dat.str) S1 rfl (cl_nodup _) (heldc rfl rfl) (fun _ => rfl) (fun m cs C hm => ?_) (by omega) fun ds V1 k2 hds hk2 => ?_
  · refine ex_list D.hh ((ev_callB (b1 := 0) (b2 := 0) (rd_built D.toTops (by kernel_rfl) (by boot_fast) (by decide) rfl rfl (by decide)) (ea1 (monoDict (c := c) (ks := ks) fun x => monoD _) (ev_name (rdc rfl (by decide) rfl C (h1 _ _ rfl)) (monoDict (c := c) fun x => monoD _) (monoDict (c := c) (fun x => monoD _) _ _ _ hP1 hvc)) rfl) (fun vs Y' hs pv => ?_) rfl rfl).imp fun Y v h => ⟨_, rfl, h⟩)
    obtain ⟨v, rfl, hv⟩ := pv
    rw [hts]
    exact ec_sortD D.hh hv (by omega)
  subst hds
  refine ⟨fun i ρ' M' P' k' => Hs ρ' (L8 c (.int many t1) (.int static t2) vn vc vw ve vt (.ref dd)) ∧ k' ≤ k ∧ ∃ vf nf, M' = qs.map (owD vf nf) ∧ ∀ x ∈ Nm, DatAll P' (vf x) ((dueOf Nm W many static num (ts.take i) x).map dPair), ⟨h1, by omega, fun _ => [], fun _ => 0, rfl, fun x hx => .nil⟩, ?_, ?_⟩
  · rintro i v o I ρ' M' P' k' s' hi ⟨d, hd, hdv⟩ hsub ⟨hρ, hk', vf, nf, rfl, hvf⟩ S'
    rw [List.length_map] at hi
    rw [List.getElem?_map] at hd
    obtain ⟨t, ht, rfl⟩ := Option.map_eq_some_iff.mp hd
    obtain ⟨tt, rfl⟩ := dstr hdv
    have htk : t ∈ ks := hkm t (List.mem_of_getElem? ht)
    have htok := topics_ok t (hks t htk)
    have up : ∀ p ∈ P, p ∈ P' := fun p hp => hsub p (List.mem_append_right _ (hP1 p hp))
    have hdd : (dd, od) ∈ P' := hsub _ (List.mem_append_right _ List.mem_cons_self)
    have h2 := hρ.add (x := Str.ofString "topic") (v := .str t tt)
    refine ls_assign S' rfl (cl_nodup _) (heldl rfl rfl) rfl (b := 0) (PP := IsD (.list ((firstOf Nm W many static t).map rowT))) (fun m cs C hm => ?_) (by omega) fun vf1 V3 k3 s3 hk3 S3 p3 => ?_
    · refine ev_callB (b1 := 0) (b2 := 0) (rd_built D.toTops (by kernel_rfl) (by boot_fast) (by decide) rfl rfl (by decide)) (ea1 (monoD (.list (((upTo 0 static).filter (tstD W t)).map (gFst Nm many)))) ?_ rfl) (fun vs Y' hs pv => ?_) rfl rfl
      · refine ev_compG (B := fun d => [(Str.ofString "k", d)]) rfl (by decide) rfl (by decide) (fun _ => rfl) ?_ (by rw [upTo_len]; omega) (fun d _ => tgt_name rfl fun _ => rfl) ?_ ?_
        · rw [upTo_len]
          exact ei_range (b := 0) D.hh (rd_built D.toTops (by kernel_rfl) (by boot_fast) (by decide) rfl rfl (by decide)) (by omega) (ev_nameD (rdl rfl (by decide) rfl hm (h2 _ _ rfl)) (.int _ _)) rfl
        · intro d hd C' oC m₂ Y' hs hC hB
          obtain ⟨j, hj0, hj, rfl⟩ := upTo_mem (a := 0) hd
          obtain ⟨u, hu1, hu2⟩ := hB _ List.mem_cons_self
          refine ev_tests1 (ev_inL (b1 := 0) (b2 := 0) (ds := (wkAt W j).map Dat.str) (d := .str t) ?_ D.hu (strs_ok (wk_sub hW5 j).subset five_ok) htok (ev_nameD (rdf rfl rfl (by decide) rfl rfl inR1 C (h2 _ _ rfl)) (.str _ _)) (ev_item (b1 := 0) (b2 := 0) (j := (j : Int)) (ds := W.map dStrs) (ev_nameD (rdf rfl rfl (by decide) rfl rfl inR1 C (h2 _ _ rfl)) (hvw.mono fun p hp => hs p (up p hp))) (ev_nameD (rd_own (x := Str.ofString "k") rfl rfl (by decide) List.mem_cons_self hC hu1) hu2) (by omega) (by exact W_get' (k := j) (by omega)) (by rw [List.length_map]; omega) fun _ _ => rfl) rfl)
          show decide (t ∈ wkAt W (j : Int).toNat) = true ↔ _
          rw [mem_strs, decide_eq_true_iff]; rfl
        · intro d hd _ C' oC m₂ Y' hs hC hB
          obtain ⟨j, hj0, hj, rfl⟩ := upTo_mem (a := 0) hd
          obtain ⟨u, hu1, hu2⟩ := hB _ List.mem_cons_self
          have hvn' : DatIn Y' vn (.list (Nm.map Dat.str)) := hvn.mono fun p hp => hs p (up p hp)
          have hg : (Str.ofString "g").length + (nmAt Nm (many - 1 - j)).length ≤ 1000 := by
            have h1 := hnl _ (nm_mem (Nm := Nm) (k := many - 1 - j) (by omega))
            have h2 : (Str.ofString "g").length = 1 := by decide
            omega
          have e0 : ((many : Int) - 1 - (j : Int)).toNat = many - 1 - j := by omega
          exact ev_tuple2 (b1 := 0) (b2 := 0) (ev_adds (b1 := 0) (b2 := 0) hg ev_str (ev_item (b1 := 0) (b2 := 0) (j := (many : Int) - 1 - (j : Int)) (ev_nameD (rdf rfl rfl (by decide) rfl rfl inR1 C (h2 _ _ rfl)) hvn') (ev_sub (b1 := 0) (b2 := 0) (ev_sub (b1 := 0) (b2 := 0) (ev_nameD (rdf rfl rfl (by decide) rfl rfl inR1 C (h2 _ _ rfl)) (.int _ _)) ev_int) (ev_nameD (rd_own (x := Str.ofString "k") rfl rfl (by decide) List.mem_cons_self hC hu1) hu2)) (by omega) (by rw [e0]; exact nm_get (by omega)) (by rw [List.length_map]; omega) fun _ _ => rfl))
            (ev_item (b1 := 0) (b2 := 0) (j := (j : Int)) (ev_nameD (rdf rfl rfl (by decide) rfl rfl inR1 C (h2 _ _ rfl)) hvn') (ev_nameD (rd_own (x := Str.ofString "k") rfl rfl (by decide) List.mem_cons_self hC hu1) hu2) (by omega) (by exact nm_get (k := j) (by omega)) (by rw [List.length_map]; omega) fun _ _ => rfl) rfl rfl
      · obtain ⟨v, rfl, hv⟩ := pv
        have e := upTo_pick (a := 0) (n := static) (T := tstD W t) (g := gFst Nm many) (T' := fun k => decide (t ∈ wkAt W k)) (g' := fun k => rowT (Str.ofString "g" ++ nmAt Nm (many - 1 - k), nmAt Nm k)) (fun _ => rfl) (fun _ => rfl)
        have hv : DatIn Y' v (.list (((upTo ((0 : Nat) : Int) static).filter (tstD W t)).map (gFst Nm many))) := hv
        rw [e] at hv
        exact ec_sortT (ss := (((List.range static).map (0 + ·)).filter fun k => decide (t ∈ wkAt W k)).map fun k => (Str.ofString "g" ++ nmAt Nm (many - 1 - k), nmAt Nm k)) (by rw [List.map_map]; exact hv) (Nat.le_trans (pick_len _ _ _ _) (by omega))
    have h3 := h2.add (x := Str.ofString "first") (v := vf1)
    have hfl : (firstOf Nm W many static t).length ≤ 5 := by
      have := due_len (W := W) hn hst h5 t
      unfold ordD at this
      rw [List.length_append, List.length_map] at this
      omega
    refine ls_assign S3 rfl (cl_nodup _) (heldl rfl rfl) rfl (b := 0) (PP := IsD (dStrs (ordD Nm W many static t))) (fun m cs C hm => ?_) (by omega) fun vo V4 k4 s4 hk4 S4 p4 => ?_
    · have e : (ordD Nm W many static t).map Dat.str = (((firstOf Nm W many static t).map rowT).filter fun _ => true).map dSnd ++ (otherOf Nm W many static t).map Dat.str := by
        unfold ordD
        rw [List.map_append, List.filter_eq_self.mpr (fun _ _ => rfl), List.map_map, List.map_map]; rfl
      show Ev c _ _ m 0 _ (IsD (.list ((ordD Nm W many static t).map Dat.str)))
      rw [e]
      refine ev_addL (b1 := 0) (b2 := 0) ?_ ?_ ?_
      · have := due_len (W := W) hn hst h5 t
        have e2 := congrArg List.length e
        rw [List.length_map, List.length_append] at e2
        omega
      · refine ev_compG (B := fun d => [(Str.ofString "one", d)]) rfl (by decide) rfl (by decide) (fun _ => rfl) (ei_list D.hh (ev_nameD (rdl rfl (by decide) rfl hm (h3 _ _ rfl)) p3)) (by rw [List.length_map]; omega) (fun d _ => tgt_name rfl fun _ => rfl) (fun d hd C' oC m₂ Y' hs hC hB => ev_tests0) ?_
        intro d hd _ C' oC m₂ Y' hs hC hB
        obtain ⟨r, hr, rfl⟩ := List.mem_map.mp hd
        obtain ⟨u, hu1, hu2⟩ := hB _ List.mem_cons_self
        exact ev_titem (b1 := 0) (b2 := 0) (j := 1) (ev_nameD (rd_own (x := Str.ofString "one") rfl rfl (by decide) List.mem_cons_self hC hu1) hu2) ev_int (by decide) rfl (by show 2 ≤ 1000; decide) fun _ _ => rfl
      · refine ev_callB (b1 := 0) (b2 := 0) (rd_built D.toTops (by kernel_rfl) (by boot_fast) (by decide) rfl rfl (by decide)) (ea1 (monoD (.list (((upTo static (many - static)).filter (tstD W t)).map (gNm Nm)))) ?_ rfl) (fun vs Y' hs pv => ?_) rfl rfl
        · refine ev_compG (B := fun d => [(Str.ofString "k", d)]) rfl (by decide) rfl (by decide) (fun _ => rfl) ?_ (by rw [upTo_len]; omega) (fun d _ => tgt_name rfl fun _ => rfl) ?_ ?_
          · rw [upTo_len]
            exact ei_range2 (b1 := 0) (b2 := 0) D.hh (rd_built D.toTops (by kernel_rfl) (by boot_fast) (by decide) rfl rfl (by decide)) (by omega) (by omega) (ev_nameD (rdl rfl (by decide) rfl hm (h3 _ _ rfl)) (.int _ _)) (ev_nameD (rdc rfl (by decide) rfl C (h3 _ _ rfl)) (.int _ _)) rfl rfl rfl
          · intro d hd C' oC m₂ Y' hs hC hB
            obtain ⟨j, hj0, hj, rfl⟩ := upTo_mem (a := static) hd
            obtain ⟨u, hu1, hu2⟩ := hB _ List.mem_cons_self
            refine ev_tests1 (ev_inL (b1 := 0) (b2 := 0) (ds := (wkAt W j).map Dat.str) (d := .str t) ?_ D.hu (strs_ok (wk_sub hW5 j).subset five_ok) htok (ev_nameD (rdf rfl rfl (by decide) rfl rfl inR1 C (h3 _ _ rfl)) (.str _ _)) (ev_item (b1 := 0) (b2 := 0) (j := (j : Int)) (ds := W.map dStrs) (ev_nameD (rdf rfl rfl (by decide) rfl rfl inR1 C (h3 _ _ rfl)) (hvw.mono fun p hp => hs p (List.mem_append_right _ (up p hp)))) (ev_nameD (rd_own (x := Str.ofString "k") rfl rfl (by decide) List.mem_cons_self hC hu1) hu2) (by omega) (by exact W_get' (k := j) (by omega)) (by rw [List.length_map]; omega) fun _ _ => rfl) rfl)
            show decide (t ∈ wkAt W (j : Int).toNat) = true ↔ _
            rw [mem_strs, decide_eq_true_iff]; rfl
          · intro d hd _ C' oC m₂ Y' hs hC hB
            obtain ⟨j, hj0, hj, rfl⟩ := upTo_mem (a := static) hd
            obtain ⟨u, hu1, hu2⟩ := hB _ List.mem_cons_self
            exact ev_item (b1 := 0) (b2 := 0) (j := (j : Int)) (ev_nameD (rdf rfl rfl (by decide) rfl rfl inR1 C (h3 _ _ rfl)) (hvn.mono fun p hp => hs p (List.mem_append_right _ (up p hp)))) (ev_nameD (rd_own (x := Str.ofString "k") rfl rfl (by decide) List.mem_cons_self hC hu1) hu2) (by omega) (by exact nm_get (k := j) (by omega)) (by rw [List.length_map]; omega) fun _ _ => rfl
        · obtain ⟨v, rfl, hv⟩ := pv
          have e := upTo_pick (a := static) (n := many - static) (T := tstD W t) (g := gNm Nm) (T' := fun k => decide (t ∈ wkAt W k)) (g' := fun k => Dat.str (nmAt Nm k)) (fun _ => rfl) (fun _ => rfl)
          rw [e] at hv
          exact ec_sortS (ss := (((List.range (many - static)).map (static + ·)).filter fun k => decide (t ∈ wkAt W k)).map (nmAt Nm)) (by rw [List.map_map]; exact hv) (Nat.le_trans (pick_len _ _ _ _) (by omega))
    have h4 := (h2.keep (x := Str.ofString "first") (v := vf1) rfl).add (x := Str.ofString "order") (v := vo)
    have hol : (ordD Nm W many static t).length ≤ 5 := due_len hn hst h5 t
    have hond := due_nd (W := W) hn hnd hst h5 t
    have hosub : ∀ x ∈ ordD Nm W many static t, x ∈ Nm := fun x hx => due_mem hn hst h5 hx
    refine ls_assign S4 rfl (cl_nodup _) (heldl rfl rfl) rfl (b := 0) (PP := IsD (.list ((sortZ (num t)).map Dat.int))) (fun m cs C hm => ?_) (by omega) fun vr V5 k5 s5 hk5 S5 p5 => ?_
    · refine ev_callB (b1 := 0) (b2 := 0) (rd_built D.toTops (by kernel_rfl) (by boot_fast) (by decide) rfl rfl (by decide)) (ea1 (monoD (.list ((num t).map Dat.int))) ?_ rfl) (fun vs Y' hs pv => ?_) rfl rfl
      · exact ev_ditem (b1 := 0) (b2 := 0) (ks := ks) (C := fun x => IsD (.list ((num x).map Dat.int))) (x := t) (monoD _) (ev_name (rdc rfl (by decide) rfl C (h4 _ _ rfl)) (monoDict (c := c) fun x => monoD _) (monoDict (c := c) (fun x => monoD _) _ _ _ (fun p hp => List.mem_append_right _ (List.mem_append_right _ (up p hp))) hvc)) (ev_nameD (rdc rfl (by decide) rfl C (h4 _ _ rfl)) (.str _ _)) htk fun _ _ => rfl
      · obtain ⟨v, rfl, hv⟩ := pv
        exact ec_sortI hv (by have := h7 t; omega)
    have hrl : (sortZ (num t)).length ≤ 7 := by rw [(sortZ_perm (num t)).length_eq]; exact h7 t
    obtain ⟨r, hr⟩ : ∃ r, r = sortZ (num t) := ⟨_, rfl⟩
    obtain ⟨ord, ho⟩ : ∃ ord, ord = ordD Nm W many static t := ⟨_, rfl⟩
    obtain ⟨n, hno⟩ : ∃ n, n = ord.length := ⟨_, rfl⟩
    rw [← hr] at p5 hrl
    rw [← ho] at p4 hol hond hosub
    have hor := p4.mono (news' := V5 ++ (V4 ++ (V3 ++ P'))) fun p hp => List.mem_append_right _ hp
    have up5 : ∀ p ∈ P', p ∈ V5 ++ (V4 ++ (V3 ++ P')) := fun p hp => List.mem_append_right _ (List.mem_append_right _ (List.mem_append_right _ hp))
    refine ls_for (b := 0) (PN := fun ds => ds = upTo 0 n) S5 rfl (cl_nodup _) (heldl rfl rfl) (fun _ => rfl) (fun m cs C hm => EvI.x ?_) (by omega) fun ds V6 k6 hds hk6 => ?_
    · have h5 := h4.add (x := Str.ofString "rest") (v := vr)
      rw [upTo_len]
      refine ei_range (b := 0) D.hh (rd_built D.toTops (by kernel_rfl) (by boot_fast) (by decide) rfl rfl (by decide)) (by omega) (ev_callB (b1 := 0) (b2 := 0) (rd_built D.toTops (by kernel_rfl) (by boot_fast) (by decide) rfl rfl (by decide)) (ea1 (monoD (dStrs ord)) (ev_nameD (rdl rfl (by decide) rfl hm (h5 _ _ rfl)) hor) rfl) (fun vs Y' hs pv => ?_) rfl rfl) rfl
      obtain ⟨v, rfl, hv⟩ := pv
      exact (ec_len hv (by rw [List.length_map]; omega)).imp fun Y v h => by rw [List.length_map, ← hno] at h; exact h
    subst hds
    refine ⟨fun j ρ' M'' P'' k'' => k'' ≤ k ∧ ∃ vr vf' nf', Hs ρ' ((Str.ofString "rest", vr) :: (Str.ofString "order", vo) :: (Str.ofString "topic", .str t tt) :: L8 c (.int many t1) (.int static t2) vn vc vw ve vt (.ref dd)) ∧ DatIn P'' vr (.list ((restAt r n j).map Dat.int)) ∧ M'' = qs.map (owD vf' nf') ∧ ∀ x ∈ Nm, DatAll P'' (vf' x) ((dueOf Nm W many static num (ts.take i) x ++ pcD ord r t x j).map dPair),
      ⟨by omega, vr, vf, nf, h4.add, p5.mono fun p hp => List.mem_append_right _ hp, rfl, fun x hx => by rw [pcD_zero, List.append_nil]; exact (hvf x hx).mono fun p hp => List.mem_append_right _ (up5 p hp)⟩, ?_, ?_⟩
    · rintro j v2 o2 I2 ρ2 M2 P2 k7 s7 hj ⟨d2, hd2, hdv2⟩ hsub2 ⟨hk7, vr2, vf2, nf2, hρ2, hvr2, rfl, hvf2⟩ S7
      rw [upTo_len] at hj
      rw [upTo_get hj] at hd2
      obtain rfl := Option.some.inj hd2
      obtain ⟨tj, rfl⟩ := dint hdv2
      rw [Int.zero_add] at S7 hdv2
      have hlr : (restAt r n j).length ≤ 7 := Nat.le_trans restAt_len hrl
      have h7 := hρ2.add (x := Str.ofString "k") (v := .int (j : Int) tj)
      have up7 : ∀ p ∈ V5 ++ (V4 ++ (V3 ++ P')), p ∈ P2 := fun p hp => hsub2 p (List.mem_append_right _ hp)
      have hor2 : DatIn P2 vo (dStrs ord) := hor.mono up7
      have lenO : ∀ {m : Str → Option Value} {cs X Y : Led} {ρx : Str → Option Value} {pp p1 p2 : Pos}, (∀ x, (CL c.L).lookup x = none → m x = ρx x) → ρx (Str.ofString "order") = some vo → (∀ p ∈ P2, p ∈ Y) → Ev c X Y m 0 (eval (.Call (.Name (Str.ofString "len") p1) [.Name (Str.ofString "order") p2] [] pp) (LE c fa cd)) (IsD (.int (n : Int))) := by
        intro m cs X Y ρx pp p1 p2 hm hx hY
        refine ev_callB (b1 := 0) (b2 := 0) (rd_built D.toTops (by kernel_rfl) (by boot_fast) (by decide) rfl rfl (by decide)) (ea1 (monoD (dStrs ord)) (ev_nameD (rdl rfl (by decide) rfl hm hx) (hor2.mono hY)) rfl) (fun vs Y' hs pv => ?_) rfl rfl
        obtain ⟨v, rfl, hv⟩ := pv
        exact (ec_len hv (by rw [List.length_map]; omega)).imp fun Y v h => by rw [List.length_map, ← hno] at h; exact h
      refine ls_assign S7 rfl (cl_nodup _) (heldl rfl rfl) rfl (b := 0) (PP := IsD (.int ((szOf (restAt r n j).length n j : Nat) : Int))) (fun m cs C hm => ?_) (by omega) fun vz V8 k8 s8 hk8 S8 p8 => ?_
      · refine (ev_fdiv (b1 := 0) (b2 := 0) (x := ((restAt r n j).length : Int) + (n : Int) - (j : Int) - 1) (y := (n : Int) - (j : Int)) (by omega) (PyProof.noPylong_small (by omega)) ?_ ?_).imp fun Y v h => by rw [sz_int hj] at h; exact h
        · refine ev_sub (b1 := 0) (b2 := 0) (ev_sub (b1 := 0) (b2 := 0) (ev_add (b1 := 0) (b2 := 0) ?_ (lenO (cs := cs) hm (h7 _ _ rfl) fun _ h => h)) (ev_nameD (rdl rfl (by decide) rfl hm (h7 _ _ rfl)) (.int _ _))) ev_int
          refine ev_callB (b1 := 0) (b2 := 0) (rd_built D.toTops (by kernel_rfl) (by boot_fast) (by decide) rfl rfl (by decide)) (ea1 (monoD (.list ((restAt r n j).map Dat.int))) (ev_nameD (rdl rfl (by decide) rfl hm (h7 _ _ rfl)) hvr2) rfl) (fun vs Y' hs pv => ?_) rfl rfl
          obtain ⟨v, rfl, hv⟩ := pv
          exact (ec_len hv (by rw [List.length_map]; omega)).imp fun Y v h => by rw [List.length_map] at h; exact h
        · exact ev_sub (b1 := 0) (b2 := 0) (lenO (cs := cs) hm (h7 _ _ rfl) fun _ h => h) (ev_nameD (rdl rfl (by decide) rfl hm (h7 _ _ rfl)) (.int _ _))
      obtain ⟨tz, rfl⟩ := dint p8
      have h8 := h7.add (x := Str.ofString "size") (v := .int ((szOf (restAt r n j).length n j : Nat) : Int) tz)
      obtain ⟨y, hy⟩ : ∃ y, ord[j]? = some y := ⟨ord[j], List.getElem?_eq_getElem (by omega)⟩
      have hyN : y ∈ Nm := hosub y (List.mem_of_getElem? hy)
      obtain ⟨⟨y', b⟩, hqb, rfl⟩ := List.mem_map.mp (hq ▸ hyN)
      obtain ⟨q1, q2, hqs⟩ := List.append_of_mem hqb
      have hqnd : (qs.map (·.1)).Nodup := by rw [hq]; exact hnd
      rw [hqs, List.map_append, List.map_cons] at S8
      refine ls_append (pre := q1.map (owD vf2 nf2)) (post := q2.map (owD vf2 nf2)) (b := b) (vs := vf2 y') (n := nf2 y') (b1 := 0) (b2 := 0) (PP := IsD (dPair (t, cutOf r n j))) S8 (fun m cs C hm => ?_) (fun m cs C hm => ?_) (by omega) ?_ rfl rfl rfl rfl fun v V9 k9 s9 hk9 S9 p9 => ?_
      · refine (ev_ditem (b1 := 0) (b2 := 0) (ks := Nm) (C := fun x _ u => ∃ b, (x, b) ∈ qs ∧ u = .ref b) (x := y') (fun _ _ _ _ h => h) (ev_name (rdl rfl (by decide) rfl hm (h8 _ _ rfl)) (monoDict (c := c) fun x _ _ _ _ h => h) (hdict _ (List.mem_append_right _ (up7 _ (up5 _ hdd))))) (ev_item (b1 := 0) (b2 := 0) (j := (j : Int)) (ds := ord.map Dat.str) (ev_nameD (rdl rfl (by decide) rfl hm (h8 _ _ rfl)) (hor2.mono fun p hp => List.mem_append_right _ hp)) (ev_nameD (rdl rfl (by decide) rfl hm (h8 _ _ rfl)) (.int _ _)) (by omega) (by show (ord.map Dat.str)[j]? = _; rw [List.getElem?_map, hy]; rfl) (by rw [List.length_map]; omega) fun _ _ => rfl) hyN fun _ _ => rfl).imp fun Y v ⟨b', hb', e⟩ => ?_
        rw [e, fst_inj hqnd hqb hb']
      · refine ev_tuple2 (b1 := 0) (b2 := 0) (ev_nameD (rdc rfl (by decide) rfl C (h8 _ _ rfl)) (.str _ _)) ((ev_upto (b1 := 0) (b2 := 0) (PD := fun ds => ds = (restAt r n j).map Dat.int) (P := fun z => z = szOf (restAt r n j).length n j) ((ev_nameD (rdl rfl (by decide) rfl hm (h8 _ _ rfl)) (hvr2.mono fun p hp => List.mem_append_right _ hp)).imp fun Y v h => ⟨_, rfl, h⟩) (fun ds e => by rw [e, List.length_map]; omega) ((ev_nameV (rdl rfl (by decide) rfl hm (h8 _ _ rfl))).imp fun Y v e => ⟨_, tz, e, rfl⟩) fun _ _ => rfl).imp fun Y v ⟨ds, z, e1, e2, h⟩ => ?_) rfl rfl
        rw [e1, e2, ← List.map_take] at h
        exact h
      · rw [(hvf2 y' hyN).length, List.length_map, List.length_append]
        have a1 := due_le Nm W many static num (ts.take i) y'
        have a2 := pcD_len ord r t y' j
        rw [List.length_take] at a1
        omega
      · refine ls_assign S9 rfl (cl_nodup _) (heldl rfl rfl) rfl (b := 0) (PP := IsD (.list ((restAt r n (j + 1)).map Dat.int))) (fun m cs C hm => ?_) (by omega) fun vr3 V10 k10 s10 hk10 S10 p10 => ?_
        · refine (ev_from (b1 := 0) (b2 := 0) (j := szOf (restAt r n j).length n j) (ds := (restAt r n j).map Dat.int) (ev_nameD (rdl rfl (by decide) rfl hm (h8 _ _ rfl)) (hvr2.mono fun p hp => List.mem_append_right _ (List.mem_append_right _ hp))) (by rw [List.length_map]; omega) (ev_nameD (rdl rfl (by decide) rfl hm (h8 _ _ rfl)) (.int _ _)) fun _ _ => rfl).imp fun Y v h => ?_
          rw [← List.map_drop] at h
          exact h
        · have hB : Hs ρ2 ((Str.ofString "order", vo) :: (Str.ofString "topic", .str t tt) :: L8 c (.int many t1) (.int static t2) vn vc vw ve vt (.ref dd)) := hρ2.drop rfl
          have upE : ∀ p ∈ P2, p ∈ V10 ++ (V9 ++ (V8 ++ P2)) := fun p hp => List.mem_append_right _ (List.mem_append_right _ (List.mem_append_right _ hp))
          refine wpAny_execs_nil ⟨rfl, _, _, _, _, S10, upE, by omega, vr3, fun x => if x = y' then vf2 y' ++ [v] else vf2 x, fun x => if x = y' then nf2 y' + 1 else nf2 x, ((hB.keep rfl).keep rfl).add, p10, ?_, fun x hx => ?_⟩
          · rw [hqs, List.map_append, List.map_cons]
            have hne : ∀ q ∈ q1 ++ q2, q.1 ≠ y' := by
              intro q hq e
              rw [hqs, List.map_append, List.map_cons] at hqnd
              have := (List.nodup_cons.mp (List.perm_middle.nodup_iff.mp hqnd)).1
              rw [← List.map_append] at this
              exact this (e ▸ List.mem_map.mpr ⟨q, hq, rfl⟩)
            have go : ∀ l : List (Str × Addr), (∀ q ∈ l, q ∈ q1 ++ q2) → l.map (owD vf2 nf2) = l.map (owD (fun x => if x = y' then vf2 y' ++ [v] else vf2 x) (fun x => if x = y' then nf2 y' + 1 else nf2 x)) := fun l hl => List.map_congr_left fun q hq => by
              have := hne q (hl q hq)
              simp only [owD, if_neg this]
            rw [go q1 fun q hq => List.mem_append_left _ hq, go q2 fun q hq => List.mem_append_right _ hq]
            simp [owD]
          · have hno' : ord.length = n := hno.symm
            have e1 : ∀ A B C : List (Str × List Int), (A ++ (B ++ C)).map dPair = (A ++ B).map dPair ++ C.map dPair := fun A B C => by simp
            rw [pcD_step hond hy, hno', e1]
            by_cases e : x = y'
            · subst e
              simp only [if_pos]
              exact ((hvf2 x hx).mono upE).append (.cons (p9.mono fun p hp => List.mem_append_right _ hp) .nil)
            · simp only [if_neg e, List.map_nil, List.append_nil]
              exact (hvf2 x hx).mono upE
    · rintro ρ3 M3 P3 k7 s7 hsub3 ⟨hk7, vr2, vf2, nf2, hρ2, _, rfl, hvf2⟩ S7
      rw [upTo_len, hno] at hvf2
      refine wpAny_execs_nil ⟨rfl, _, _, _, _, S7, fun p hp => hsub3 p (List.mem_append_right _ (up5 p hp)), ((hρ2.drop rfl).drop rfl).drop rfl, hk7, vf2, nf2, rfl, fun x hx => ?_⟩
      rw [due_step ht, ← ho, ← hr]
      exact hvf2 x hx
  · rintro ρ' M' P' k' s' hsub ⟨hρ, hk', vf, nf, rfl, hvf⟩ S'
    rw [List.length_map, List.take_length] at hvf
    obtain ⟨P2, h1, h2, S2⟩ := S'.freezeAll
    have hdd : (dd, od) ∈ P2 := h1 _ (hsub _ (List.mem_append_right _ List.mem_cons_self))
    refine next (.ref dd) ρ' k' s' P2 hρ (fun p hp => h1 p (hsub p (List.mem_append_right _ (hP1 p hp)))) ?_ hk' S2
    obtain ⟨dd', od', kvs, e, hm, hlo', hod', hks', hC⟩ := hdict P2 hdd
    refine ⟨dd', od', kvs, e, hm, hlo', hod', hks', fun x u hu => ?_⟩
    obtain ⟨b, hb, rfl⟩ := hC x u hu
    have hx : x ∈ Nm := by rw [← hq]; exact List.mem_map.mpr ⟨_, hb, rfl⟩
    exact DatIn.list (h2 _ (List.mem_map.mpr ⟨(x, b), hb, rfl⟩)) ((hvf x hx).mono h1)
end

end
section
section
variable {c : Cx} {R Y : Led} {m : Str → Option Value} {env : Env} {mean : ExcName → Option Value} {mg mb : Str → Option Value}
theorem ev_or_nil : Ev c R Y m 0 (allTrue .Or [] env) (IsB false) := by
  intro s Z U k Q _ _ _ S _ ret
  exact wpAny_allTrue_Or_nil (ret _ [] k s.heap s.toks (by omega) S.self Fresh.nil rfl)
theorem ev_or_cons {x : Expr} {rest : List Expr} {b1 b2 : Nat} (h1 : Ev c R Y m b1 (isTrue x env (eval x env)) (IsB false)) (h2 : Ev c R Y m b2 (allTrue .Or rest env) (IsB false)) : Ev c R Y m (b1 + b2) (allTrue .Or (x :: rest) env) (IsB false) := by
  intro s Z U k Q hR hY hU S hk ret
  refine wpAny_allTrue_Or_cons ?_
  refine h1 s Z U k _ hR hY hU S (by omega) fun v V k1 hp1 tk1 hk1 S1 f1 p1 => ?_
  subst p1
  refine h2 _ (V ++ Z) (V ++ U) k1 _ (fun p hp => List.mem_append_right _ (hR p hp)) (fun p hp => List.mem_append_right _ (hY p hp)) (fun p hp => (List.mem_append.mp hp).elim (List.mem_append_left _) fun h => List.mem_append_right _ (hU p h)) S1 (by omega) fun u V2 k2 hp2 tk2 hk2 S2 f2 p2 => ?_
  refine ret u (V2 ++ V) k2 hp2 tk2 (by omega) ?_ (f1.app f2) p2
  rw [List.append_assoc]; exact S2
theorem ev_or {vs : List Expr} {pos : Pos} {t : Sem Value} {b : Nat} (h : Ev c R Y m b (allTrue .Or vs env) (IsB false)) : Ev c R Y m b (isTrue (.BoolOp .Or vs pos) env t) (IsB false) := by
  intro s Z U k Q hR hY hU S hk ret
  exact wpAny_isTrue_BoolOp (h s Z U k Q hR hY hU S hk ret)
/-- members[k] -/
theorem ev_mitem {e i : Expr} {pos : Pos} {b1 b2 : Nat} {mems : List Mem} {mm : Mem} {j : Int} (h1 : Ev c R Y m b1 (eval e env) (IsMems mems)) (h2 : Ev c R Y m b2 (eval i env) (IsD (.int j))) (h0 : 0 ≤ j) (hj : mems[j.toNat]? = some mm) (hl : mems.length ≤ 1000)
    (hs : ∀ o v, subscripted i false o v = operate [o, v] (getItem o v)) : Ev c R Y m (b1 + b2) (eval (.Subscript e i pos) env) (IsMem mm) := by
  intro s Z U k Q hR hY hU S hk ret
  refine Subscript_ ?_
  refine h1 s Z U k _ hR hY hU S (by omega) fun v V k1 hp1 tk1 hk1 S1 f1 p1 => ?_
  refine h2 _ (V ++ Z) (V ++ U) k1 _ (fun p hp => List.mem_append_right _ (hR p hp)) (fun p hp => List.mem_append_right _ (hY p hp)) (fun p hp => (List.mem_append.mp hp).elim (List.mem_append_left _) fun h => List.mem_append_right _ (hU p h)) S1 (by omega) fun u V2 k2 hp2 tk2 hk2 S2 f2 p2 => ?_
  obtain ⟨tj, rfl⟩ := dint p2
  obtain ⟨a, vs, n, rfl, hm, hlv, hall⟩ := p1
  have hm' : _ ∈ V2 ++ (V ++ Z) := List.mem_append_right _ ((List.mem_append.mp hm).elim (List.mem_append_left _) fun h => List.mem_append_right _ (hU _ h))
  have hlt : j.toNat < mems.length := (List.getElem?_eq_some_iff.mp hj).1
  obtain ⟨x, hx⟩ : ∃ x, vs[j.toNat]? = some x := ⟨_, List.getElem?_eq_getElem (by omega)⟩
  have hdv := hall _ _ _ hx hj
  have hL := jIsL S2.news hm'
  refine tail_any hL.typeIs slot_list_getitem.lookup (wpAny_getItem_list hL h0 (by omega) (by simpa using hx) ?_) (hs _ _)
  refine ret x (V2 ++ V) k2 hp2 tk2 (by omega) ?_ (f1.app f2) ?_
  · rw [List.append_assoc]; exact S2
  · rw [List.append_assoc]; exact hdv.mono fun p hp => List.mem_append_right _ hp
/-- e.partitions() -/
theorem ev_parts {e : Expr} {apos pos : Pos} {b : Nat} {prs : List (Str × List Int)} {pl : Sem Bool} (D : Deep c mean mg mb) (h : Ev c R Y m b (eval e env) (IsRes prs)) (hfl : (flatP prs).length ≤ 1000)
    (he : eval (.Call (.Attribute e (Str.ofString "partitions") apos) [] [] pos) env = (do
      let ov ← eval e env
      standAt apos.atName
      let (f, first) ← holding [ov] (getMethod ov (Str.ofString "partitions") pl)
      callWith pos f first (backTo pos (starEach [] env)) [])) :
    Ev c R Y m b (eval (.Call (.Attribute e (Str.ofString "partitions") apos) [] [] pos) env) (IsD (.list ((flatP prs).map dTK))) := by
  intro s Z U k Q hR hY hU S hk ret
  refine MethodCall_ ?_ he
  refine h s Z U k _ hR hY hU S hk fun v V k1 hp1 tk1 hk1 S1 f1 p1 => ?_
  obtain ⟨x, dx, h1, h2, h3, t1, t2, t3, tv, ap, tu, n, rfl, a, b', d⟩ := p1
  have up : ∀ p ∈ V ++ U, p ∈ V ++ Z := fun p hp => (List.mem_append.mp hp).elim (List.mem_append_left _) fun h => List.mem_append_right _ (hU p h)
  refine method_inst (f := 63) S1.F D.X (InstAt.of_news S1.news (up _ a) (up _ b')) (by kernel_rfl) (by kernel_rfl) (by kernel_rfl) (by kernel_rfl) ?_
  refine callWith_K0 (D.X.keeps S1.F.keep) (by kernel_rfl) ?_
  refine (ec_parts (R := V ++ Z) (Y := V ++ U) (m := m) D hfl ⟨x, dx, h1, h2, h3, t1, t2, t3, tv, ap, tu, n, rfl, a, b', d⟩) _ (V ++ Z) (V ++ U) k1 _ (fun _ h => h) (fun _ h => h) up S1 (by omega) fun u V2 k2 hp2 tk2 hk2 S2 f2 p2 => ?_
  refine ret u (V2 ++ V) k2 hp2 tk2 (by omega) ?_ (f1.app f2) ?_
  · rw [List.append_assoc]; exact S2
  · rw [List.append_assoc]; exact p2
end
/-- what the law gathers of one topic -/
def givenOf (Nm : List Str) (tl : Str → List (Str × List Int)) (t : Str) : List Int := Nm.flatMap fun x => ((flatP (tl x)).filter fun p => decide (p.1 = t)).map (·.2)
def tlEs (tl : Str → List (Str × List Int)) : Dat → List Dat
  | .str x => (flatP (tl x)).map dTK
  | _ => []
def tstW (t : Str) : Dat → Bool
  | .tuple [.str w, _] => decide (w = t)
  | _ => false
theorem given_eq (Nm : List Str) (tl : Str → List (Str × List Int)) (t : Str) : (givenOf Nm tl t).map Dat.int = (Nm.map Dat.str).flatMap fun d => ((tlEs tl d).filter (tstW t)).map dSnd := by
  unfold givenOf
  have one : ∀ l : List (Str × Int), ((l.filter fun p => decide (p.1 = t)).map (·.2)).map Dat.int = ((l.map dTK).filter (tstW t)).map dSnd := by
    intro l
    induction l with
    | nil => rfl
    | cons p l ih =>
      rw [List.map_cons, List.filter_cons, List.filter_cons]
      show _ = ((if decide (p.1 = t) = true then _ else _ : List Dat)).map dSnd
      by_cases e : p.1 = t
      · simp only [e, decide_true, if_true, List.map_cons]
        rw [ih]; rfl
      · simp only [e, decide_false, Bool.false_eq_true, if_false]
        exact ih
  induction Nm with
  | nil => rfl
  | cons x Nm ih =>
    rw [List.flatMap_cons, List.map_append, ih, one, List.map_cons, List.flatMap_cons]
    rfl

end
section
theorem names_ok : ∀ x ∈ names5, kqdOk 8 (.str x) = true := by decide +kernel
theorem ints_ok (ns : List Int) (n : Nat) : ∀ d ∈ ns.map Dat.int, kqdOk n d = true := fun d hd => by
  obtain ⟨z, _, rfl⟩ := List.mem_map.mp hd
  cases n <;> rfl
theorem str_ok7 {x : Str} (h : kqdOk 8 (.str x) = true) (n : Nat) : kqdOk n (.str x) = true := by
  cases n <;> exact h
theorem pairs_ok {prs : List (Str × List Int)} (h : ∀ p ∈ prs, p.1 ∈ topics4) : ∀ d ∈ prs.map dPair, kqdOk 8 d = true := fun d hd => by
  obtain ⟨p, hp, rfl⟩ := List.mem_map.mp hd
  show ([Dat.str p.1, .list (p.2.map Dat.int)].all (kqdOk 7)) = true
  rw [List.all_eq_true]
  intro d hd
  rcases List.mem_cons.mp hd with rfl | hd
  · exact str_ok7 (topics_ok _ (h p hp)) 7
  · rw [List.mem_singleton.mp hd]
    show (p.2.map Dat.int).all (kqdOk 6) = true
    rw [List.all_eq_true]
    exact ints_ok p.2 6
theorem flat_ok {prs : List (Str × List Int)} (h : ∀ p ∈ prs, p.1 ∈ topics4) : ∀ d ∈ (flatP prs).map dTK, kqdOk 8 d = true := fun d hd => by
  obtain ⟨p, hp, rfl⟩ := List.mem_map.mp hd
  obtain ⟨q, hq, hp⟩ := List.mem_flatMap.mp hp
  obtain ⟨z, hz, rfl⟩ := List.mem_map.mp hp
  show ([Dat.str q.1, .int z].all (kqdOk 7)) = true
  rw [List.all_eq_true]
  intro d hd
  rcases List.mem_cons.mp hd with rfl | hd
  · exact str_ok7 (topics_ok _ (h q hq)) 7
  · rw [List.mem_singleton.mp hd]; rfl
def isS (t : Str) : Dat → Bool
  | .str x => decide (x = t)
  | _ => false
def hasT (t : Str) : Dat → Bool
  | .list l => l.any (isS t)
  | _ => false
theorem has_eq (t : Str) (w : List Str) : hasT t (dStrs w) = decide (t ∈ w) := by
  show (w.map Dat.str).any (isS t) = _
  rw [Bool.eq_iff_iff, List.any_eq_true, decide_eq_true_iff]
  constructor
  · rintro ⟨d, hd, e⟩
    obtain ⟨x, hx, rfl⟩ := List.mem_map.mp hd
    obtain rfl : x = t := of_decide_eq_true e
    exact hx
  · exact fun h => ⟨.str t, List.mem_map.mpr ⟨t, h, rfl⟩, decide_eq_true rfl⟩
theorem has_len (W : List (List Str)) (t : Str) : (((W.map dStrs).filter (hasT t)).map fun d => d).length = (W.filter fun w => decide (t ∈ w)).length := by
  rw [List.length_map, List.filter_map, List.length_map]
  congr 1
  exact List.filter_congr fun w _ => has_eq t w
section
variable {c : Cx} {fa : Addr} {cd : Value} {mean : ExcName → Option Value} {mg mb : Str → Option Value} {s0 s : Shared} {ρ : Str → Option Value} {P : Led} {k : Int}
/-- the checks -/
theorem lawG {many : Nat} {t1 : Tok} {vst vn vc vw ve vt vd : Value} {Nm : List Str} {W : List (List Str)} {ks : List Str} {num : Str → List Int} {mems : List Mem} {tl du : Str → List (Str × List Int)} {Q : Flow → Shared → Prop} (D : Deep c mean mg mb) (S : LS c (CL c.L) s0 ρ [] [] P k s) (hl : Hs ρ (L8 c (.int many t1) vst vn vc vw ve vt vd))
    (h5 : many ≤ 5) (hn : Nm.length = many) (hN5 : ∀ x ∈ Nm, x ∈ names5) (hW : W.length = many) (hW5 : ∀ w ∈ W, w.Sublist five) (hks : ∀ x ∈ ks, x ∈ topics4) (hk4 : ks.length ≤ 4) (h7 : ∀ x, (num x).length ≤ 7)
    (hvn : DatIn P vn (dStrs Nm)) (hvw : DatIn P vw (.list (W.map dStrs))) (hvc : IsDict c ks (fun x => IsD (.list ((num x).map Dat.int))) P vc) (hve : IsMems mems P ve) (hml : mems.length = many) (hmt : ∀ (k : Nat) (mm : Mem), mems[k]? = some mm → mm.topics = wkAt W k)
    (hvt : IsDict c Nm (fun x => IsRes (tl x)) P vt) (hvd : IsDict c Nm (fun x => IsD (.list ((du x).map dPair))) P vd)
    (e1 : ∀ x ∈ Nm, tl x = du x) (e2 : ∀ t ∈ ks, sortZ (givenOf Nm tl t) = if 0 < (W.filter fun w => decide (t ∈ w)).length then sortZ (num t) else []) (e3 : ∀ t ∈ ks, (givenOf Nm tl t).length < 64) (e4 : ∀ x ∈ Nm, (flatP (tl x)).length ≤ 1000) (e5 : ∀ x ∈ Nm, (tl x).length ≤ 1000) (e6 : ∀ x ∈ Nm, ∀ p ∈ tl x, p.1 ∈ topics4) (e7 : ∀ x ∈ Nm, ∀ p ∈ tl x, p.2.length < 1000)
    (hk : k ≤ 700) (next : ∀ ρ' P' k' s', LS c (CL c.L) s0 ρ' [] [] P' k' s' → Q (.ret (.bool true)) s') : WL c fa cd lw12 Q s := by
  delta lw12 stm12
  refine ls_if (b := 0) S (fun m cs C hm => ?_) (by omega) fun V k1 s1 hk1 S1 => ?_
  · have hso : ∀ d ∈ (jsrt ltS Nm).map Dat.str, kqdOk 8 d = true := strs_ok (fun x hx => hN5 x ((jsrt_perm ltS_ok (l := Nm) (by omega)).subset hx)) names_ok
    refine ev_neL (b1 := 0) (b2 := 0) (ds := (jsrt ltS Nm).map Dat.str) (es := (jsrt ltS Nm).map Dat.str) (by simp) D.hu hso hso (ev_callB (b1 := 0) (b2 := 0) (rd_built D.toTops (by kernel_rfl) (by boot_fast) (by decide) rfl rfl (by decide)) (ea1 (monoDict (c := c) (ks := Nm) fun x => monoRes (tl x)) (ev_name (rdc rfl (by decide) rfl C (hl _ _ rfl)) (monoDict (c := c) fun x => monoRes (tl x)) hvt) rfl) (fun vs Y' hs pv => ?_) rfl rfl) (ev_callB (b1 := 0) (b2 := 0) (rd_built D.toTops (by kernel_rfl) (by boot_fast) (by decide) rfl rfl (by decide)) (ea1 (monoD (dStrs Nm)) (ev_nameD (rdc rfl (by decide) rfl C (hl _ _ rfl)) hvn) rfl) (fun vs Y' hs pv => ?_) rfl rfl) rfl
    · obtain ⟨v, rfl, hv⟩ := pv
      exact ec_sortD D.hh hv (by omega)
    · obtain ⟨v, rfl, hv⟩ := pv
      exact ec_sortS hv (by omega)
  have up1 : ∀ p ∈ P, p ∈ V ++ P := fun p hp => List.mem_append_right _ hp
  delta lw13 stm13
  refine ls_for (b := 0) (PN := fun ds => ds = ks.map Dat.str) S1 rfl (cl_nodup _) (heldc rfl rfl) (fun _ => rfl) (fun m cs C hm => EvI.x ?_) (by omega) fun ds V1 k2 hds hk2 => ?_
  · rw [List.length_map]
    exact ei_keys D.hh (ev_name (rdc rfl (by decide) rfl C (hl _ _ rfl)) (monoDict (c := c) fun x => monoD _) (monoDict (c := c) (fun x => monoD _) _ _ _ up1 hvc))
  subst hds
  refine ⟨fun i ρ' M' P' k' => Hs ρ' (L8 c (.int many t1) vst vn vc vw ve vt vd) ∧ M' = [] ∧ k' ≤ k, ⟨hl, rfl, by omega⟩, ?_, ?_⟩
  · rintro i v o I ρ' M' P' k' s' hi ⟨d, hd, hdv⟩ hsub ⟨hρ, rfl, hk'⟩ S'
    rw [List.length_map] at hi
    rw [List.getElem?_map] at hd
    obtain ⟨t, ht, rfl⟩ := Option.map_eq_some_iff.mp hd
    obtain ⟨tt, rfl⟩ := dstr hdv
    have htk : t ∈ ks := List.mem_of_getElem? ht
    have up : ∀ p ∈ P, p ∈ P' := fun p hp => hsub p (List.mem_append_right _ (up1 p hp))
    have h2 := hρ.add (x := Str.ofString "topic") (v := .str t tt)
    refine ls_assign S' rfl (cl_nodup _) (heldl rfl rfl) rfl (b := 0) (PP := IsD (.list ((sortZ (givenOf Nm tl t)).map Dat.int))) (fun m cs C hm => ?_) (by omega) fun vg V3 k3 s3 hk3 S3 p3 => ?_
    · refine ev_callB (b1 := 0) (b2 := 0) (rd_built D.toTops (by kernel_rfl) (by boot_fast) (by decide) rfl rfl (by decide)) (ea1 (monoD (.list ((givenOf Nm tl t).map Dat.int))) ?_ rfl) (fun vs Y' hs pv => ?_) rfl rfl
      · rw [given_eq]
        refine ev_comp2 (b0 := 0) (ds := Nm.map Dat.str) (es := tlEs tl) (T := fun _ => tstW t) (g := fun _ => dSnd) (B0 := fun d => [(Str.ofString "name", d)]) (B1 := pB (Str.ofString "where") (Str.ofString "number")) rfl (by decide) rfl (by decide) (fun _ => rfl) (fun _ _ => rfl) (ei_list D.hh (ev_nameD (rdc rfl (by decide) rfl C (h2 _ _ rfl)) (hvn.mono up))) ?_ (fun d _ => tgt_name rfl fun _ => rfl) ?_ ?_ ?_ ?_ ?_
        · rw [← given_eq, List.length_map]
          have := e3 t htk; omega
        · intro d hd e he
          obtain ⟨x, hx, rfl⟩ := List.mem_map.mp hd
          obtain ⟨p, hp, rfl⟩ := List.mem_map.mp he
          exact tgt_pair D.hh rfl (fun _ => rfl) (fun _ => rfl) (by decide) fun _ => rfl
        · intro d e p hp hin
          rw [List.mem_singleton.mp hp] at hin
          obtain ⟨q, hq, e⟩ := List.mem_map.mp hin
          exact pB_names (n := Str.ofString "name") (by decide) (by decide) _ q hq e
        · intro d hd C' oC m₂ Y' hs hC hB
          obtain ⟨x, hx, rfl⟩ := List.mem_map.mp hd
          obtain ⟨u, hu1, hu2⟩ := hB _ List.mem_cons_self
          exact ei_list D.hh (ev_parts (b := 0) D (ev_ditem (b1 := 0) (b2 := 0) (ks := Nm) (C := fun x => IsRes (tl x)) (x := x) (monoRes _) (ev_name (rdf rfl rfl (by decide) rfl rfl inR1 C (h2 _ _ rfl)) (monoDict (c := c) fun x => monoRes (tl x)) (monoDict (c := c) (fun x => monoRes (tl x)) _ _ _ (fun p hp => hs p (up p hp)) hvt)) (ev_nameD (rd_own (x := Str.ofString "name") rfl rfl (by decide) List.mem_cons_self hC hu1) hu2) hx fun _ _ => rfl) (e4 x hx) rfl)
        · intro d hd e he C' oC m₂ Y' hs hC hB hB1
          obtain ⟨x, hx, rfl⟩ := List.mem_map.mp hd
          obtain ⟨p, hp, rfl⟩ := List.mem_map.mp he
          obtain ⟨u, hu1, hu2⟩ := hB1 (Str.ofString "where", .str p.1) List.mem_cons_self
          exact ev_tests1 (ev_eqS (b1 := 0) (b2 := 0) (ev_nameD (rd_own (x := Str.ofString "where") rfl rfl (by decide) List.mem_cons_self hC hu1) hu2) (ev_nameD (rdf rfl rfl (by decide) rfl rfl inR1 C (h2 _ _ rfl)) (.str _ _)) rfl)
        · intro d hd e he _ C' oC m₂ Y' hs hC hB hB1
          obtain ⟨x, hx, rfl⟩ := List.mem_map.mp hd
          obtain ⟨p, hp, rfl⟩ := List.mem_map.mp he
          obtain ⟨u, hu1, hu2⟩ := hB1 (Str.ofString "number", .int p.2) (List.mem_cons_of_mem _ List.mem_cons_self)
          exact ev_nameD (rd_own (x := Str.ofString "number") rfl rfl (by decide) List.mem_cons_self hC hu1) hu2
      · obtain ⟨v, rfl, hv⟩ := pv
        exact ec_sortI hv (e3 t htk)
    have h3 := h2.add (x := Str.ofString "given") (v := vg)
    have up3 : ∀ p ∈ P, p ∈ V3 ++ P' := fun p hp => List.mem_append_right _ (up p hp)
    refine ls_if (b := 0) S3 (fun m cs C hm => ?_) (by omega) fun V4 k4 s4 hk4 S4 => ?_
    · refine ev_neL (b1 := 0) (b2 := 0) (ds := (sortZ (givenOf Nm tl t)).map Dat.int) (es := (sortZ (givenOf Nm tl t)).map Dat.int) (by simp) D.hu (ints_ok _ 8) (ints_ok _ 8) (ev_nameD (rdl rfl (by decide) rfl hm (h3 _ _ rfl)) p3) ?_ rfl
      refine ev_ifexp (b0 := 0) (b1 := 0) (B := decide (((W.filter fun w => decide (t ∈ w)).length : Int) > 0)) ?_ (fun hB => ?_) fun hB => ?_
      · refine ev_gt (b1 := 0) (b2 := 0) (ev_callB (b1 := 0) (b2 := 0) (rd_built D.toTops (by kernel_rfl) (by boot_fast) (by decide) rfl rfl (by decide)) (ea1 (monoD (.list (((W.map dStrs).filter (hasT t)).map fun d => d))) ?_ rfl) (fun vs Y' hs pv => ?_) rfl rfl) ev_int rfl
        · refine ev_compG (B := fun d => [(Str.ofString "one", d)]) rfl (by decide) rfl (by decide) (fun _ => rfl) (ei_list D.hh (ev_nameD (rdc rfl (by decide) rfl C (h3 _ _ rfl)) (hvw.mono up3))) (by rw [List.length_map]; omega) (fun d _ => tgt_name rfl fun _ => rfl) ?_ ?_
          · intro d hd C' oC m₂ Y' hs hC hB
            obtain ⟨w, hw, rfl⟩ := List.mem_map.mp hd
            obtain ⟨u, hu1, hu2⟩ := hB _ List.mem_cons_self
            exact ev_tests1 (ev_inL (b1 := 0) (b2 := 0) (ds := w.map Dat.str) (d := .str t) (by rw [has_eq, mem_strs, decide_eq_true_iff]) D.hu (strs_ok (hW5 w hw).subset five_ok) (topics_ok t (hks t htk)) (ev_nameD (rdf rfl rfl (by decide) rfl rfl inR1 C (h3 _ _ rfl)) (.str _ _)) (ev_nameD (rd_own (x := Str.ofString "one") rfl rfl (by decide) List.mem_cons_self hC hu1) hu2) rfl)
          · intro d hd _ C' oC m₂ Y' hs hC hB
            obtain ⟨u, hu1, hu2⟩ := hB _ List.mem_cons_self
            exact ev_nameD (rd_own (x := Str.ofString "one") rfl rfl (by decide) List.mem_cons_self hC hu1) hu2
        · obtain ⟨v, rfl, hv⟩ := pv
          refine (ec_len hv ?_).imp fun Y v h => by rw [has_len] at h; exact h
          rw [has_len]
          have := List.length_filter_le (fun w => decide (t ∈ w)) W
          omega
      · have hpos : 0 < (W.filter fun w => decide (t ∈ w)).length := by have := of_decide_eq_true hB; omega
        rw [e2 t htk, if_pos hpos]
        refine ev_callB (b1 := 0) (b2 := 0) (rd_built D.toTops (by kernel_rfl) (by boot_fast) (by decide) rfl rfl (by decide)) (ea1 (monoD (.list ((num t).map Dat.int))) ?_ rfl) (fun vs Y' hs pv => ?_) rfl rfl
        · exact ev_ditem (b1 := 0) (b2 := 0) (ks := ks) (C := fun x => IsD (.list ((num x).map Dat.int))) (x := t) (monoD _) (ev_name (rdc rfl (by decide) rfl C (h3 _ _ rfl)) (monoDict (c := c) fun x => monoD _) (monoDict (c := c) (fun x => monoD _) _ _ _ up3 hvc)) (ev_nameD (rdc rfl (by decide) rfl C (h3 _ _ rfl)) (.str _ _)) htk fun _ _ => rfl
        · obtain ⟨v, rfl, hv⟩ := pv
          exact ec_sortI hv (by have := h7 t; omega)
      · have hpos : ¬ 0 < (W.filter fun w => decide (t ∈ w)).length := by have := of_decide_eq_false hB; omega
        rw [e2 t htk, if_neg hpos]
        exact ev_list0D
    · exact wpAny_execs_nil ⟨rfl, _, _, _, _, S4, fun p hp => List.mem_append_right _ (List.mem_append_right _ hp), (h3.drop rfl).drop rfl, rfl, by omega⟩
  · rintro ρ' M' P' k' s' hsub ⟨hρ, rfl, hk'⟩ S'
    have up : ∀ p ∈ P, p ∈ P' := fun p hp => hsub p (List.mem_append_right _ (up1 p hp))
    delta lw14 stm14
    refine ls_for (b := 0) (PN := fun ds => ds = upTo 0 many) S' rfl (cl_nodup _) (heldl rfl rfl) (fun _ => rfl) (fun m cs C hm => EvI.x ?_) (by omega) fun ds V1 k2 hds hk2 => ?_
    · rw [upTo_len]
      exact ei_range (b := 0) D.hh (rd_built D.toTops (by kernel_rfl) (by boot_fast) (by decide) rfl rfl (by decide)) (by omega) (ev_nameD (rdc rfl (by decide) rfl C (hρ _ _ rfl)) (.int _ _)) rfl
    subst hds
    refine ⟨fun i ρ' M' P' k' => Hs ρ' (L8 c (.int many t1) vst vn vc vw ve vt vd) ∧ M' = [] ∧ k' ≤ k, ⟨hρ, rfl, by omega⟩, ?_, ?_⟩
    · rintro i v o I ρ2 M2 P2 k3 s3 hi ⟨d, hd, hdv⟩ hsub2 ⟨hρ2, rfl, hk3⟩ S3
      rw [upTo_len] at hi
      rw [upTo_get hi] at hd
      obtain rfl := Option.some.inj hd
      obtain ⟨tj, rfl⟩ := dint hdv
      rw [Int.zero_add] at S3 hdv
      have up2 : ∀ p ∈ P, p ∈ P2 := fun p hp => hsub2 p (List.mem_append_right _ (up p hp))
      have h2 := hρ2.add (x := Str.ofString "k") (v := .int (i : Int) tj)
      obtain ⟨x, hx⟩ : ∃ x, x = nmAt Nm i := ⟨_, rfl⟩
      have hxN : x ∈ Nm := hx ▸ nm_mem (by omega)
      have hnx : (Nm.map Dat.str)[(i : Int).toNat]? = some (.str x) := by rw [hx]; exact nm_get (by omega)
      refine ls_assign S3 rfl (cl_nodup _) (heldl rfl rfl) rfl (b := 0) (PP := IsRes (tl x)) (fun m cs C hm => ?_) (by omega) fun vo V4 k4 s4 hk4 S4 p4 => ?_
      · exact ev_ditem (b1 := 0) (b2 := 0) (ks := Nm) (C := fun x => IsRes (tl x)) (x := x) (monoRes _) (ev_name (rdc rfl (by decide) rfl C (h2 _ _ rfl)) (monoDict (c := c) fun x => monoRes (tl x)) (monoDict (c := c) (fun x => monoRes (tl x)) _ _ _ up2 hvt)) (ev_item (b1 := 0) (b2 := 0) (j := (i : Int)) (ev_nameD (rdc rfl (by decide) rfl C (h2 _ _ rfl)) (hvn.mono up2)) (ev_nameD (rdl rfl (by decide) rfl hm (h2 _ _ rfl)) (.int _ _)) (by omega) hnx (by rw [List.length_map]; omega) fun _ _ => rfl) hxN fun _ _ => rfl
      have h4 := h2.add (x := Str.ofString "one") (v := vo)
      have hpok := pairs_ok (e6 x hxN)
      have hfok := flat_ok (e6 x hxN)
      have up4 : ∀ p ∈ P, p ∈ V4 ++ P2 := fun p hp => List.mem_append_right _ (up2 p hp)
      have dueK : ∀ {Y : Led} {m : Str → Option Value} {cs X : Led} {p1 p2 p3 p4 p5 : Pos}, CellsAre (upd (upd ρ2 (Str.ofString "k") (.int (i : Int) tj)) (Str.ofString "one") vo) (CL c.L) cs → (∀ x, (CL c.L).lookup x = none → m x = (upd (upd ρ2 (Str.ofString "k") (.int (i : Int) tj)) (Str.ofString "one") vo) x) → (∀ p ∈ P, p ∈ Y) → (∀ q ∈ cs, q ∈ X) →
          Ev c X Y m 0 (eval (.Subscript (.Name (Str.ofString "due") p1) (.Subscript (.Name (Str.ofString "names") p2) (.Name (Str.ofString "k") p3) p4) p5) (LE c fa cd)) (IsD (.list ((tl x).map dPair))) := by
        intro Y m cs X p1 p2 p3 p4 p5 C hm hY hX
        rw [e1 x hxN]
        obtain ⟨oc, hc1, hc2⟩ := cells_at (x := Str.ofString "names") C rfl
        have rn : Rd c X m (LE c fa cd) (Str.ofString "names") vn := rd_cell (cs := cs) rfl rfl (by decide) C rfl hX (h4 _ _ rfl)
        exact ev_ditem (b1 := 0) (b2 := 0) (ks := Nm) (C := fun x => IsD (.list ((du x).map dPair))) (x := x) (monoD _) (ev_name (rdl rfl (by decide) rfl hm (h4 _ _ rfl)) (monoDict (c := c) fun x => monoD _) (monoDict (c := c) (fun x => monoD _) _ _ _ hY hvd)) (ev_item (b1 := 0) (b2 := 0) (j := (i : Int)) (ev_nameD rn (hvn.mono hY)) (ev_nameD (rdl rfl (by decide) rfl hm (h4 _ _ rfl)) (.int _ _)) (by omega) hnx (by rw [List.length_map]; omega) fun _ _ => rfl) hxN fun _ _ => rfl
      refine ls_if (b := 0) S4 (fun m cs C hm => ?_) (by omega) fun V5 k5 s5 hk5 S5 => ?_
      · have r1 : Rd c ((cs ++ ([(I, o)] ++ [])) ++ (V4 ++ P2)) m (LE c fa cd) (Str.ofString "one") vo := rdl rfl (by decide) rfl hm (h4 _ _ rfl)
        refine ev_or (ev_or_cons (b1 := 0) (b2 := 0) ?_ (ev_or_cons (b1 := 0) (b2 := 0) ?_ (ev_or_cons (b1 := 0) (b2 := 0) ?_ ev_or_nil)))
        · exact (ev_neI (b1 := 0) (b2 := 0) (x := 0) (y := 0) (ev_attr (C := 66) (at_ := none) D.toTops (ev_name r1 (monoAttr (monoD _)) (res_version p4)) (by kernel_rfl) (by kernel_rfl) (by kernel_rfl) (by kernel_rfl) rfl) ev_int rfl).imp fun Y v h => h.trans (by decide)
        · exact (ev_neB (b1 := 0) (b2 := 0) (x := #[]) (y := #[]) (ev_attr (C := 66) (at_ := none) D.toTops (ev_name r1 (monoAttr (monoD _)) (res_data p4)) (by kernel_rfl) (by kernel_rfl) (by kernel_rfl) (by kernel_rfl) rfl) ev_bytes rfl).imp fun Y v h => h.trans (by decide)
        · refine ev_neL (b1 := 0) (b2 := 0) (ds := (((tl x).map dPair).filter fun _ => true).map fun d => d) (es := (tl x).map dPair) (by rw [List.filter_eq_self.mpr (fun _ _ => rfl), List.map_id']; simp) D.hu (by rw [List.filter_eq_self.mpr (fun _ _ => rfl), List.map_id']; exact hpok) hpok ?_ (dueK C hm up4 fun q hq => List.mem_append_left _ (List.mem_append_left _ hq)) rfl
          refine ev_compG (B := pB (Str.ofString "topic") (Str.ofString "row")) rfl (by decide) rfl (by decide) (fun _ => rfl) (ei_list D.hh (ev_attr (C := 66) (at_ := none) D.toTops (ev_name r1 (monoAttr (monoD _)) (res_parts p4)) (by kernel_rfl) (by kernel_rfl) (by kernel_rfl) (by kernel_rfl) rfl)) (by rw [List.length_map]; exact e5 x hxN) ?_ (fun d hd C' oC m₂ Y' hs hC hB => ev_tests0) ?_
          · intro d hd
            obtain ⟨p, hp, rfl⟩ := List.mem_map.mp hd
            exact tgt_pair D.hh rfl (fun _ => rfl) (fun _ => rfl) (by decide) fun _ => rfl
          · intro d hd _ C' oC m₂ Y' hs hC hB
            obtain ⟨p, hp, rfl⟩ := List.mem_map.mp hd
            obtain ⟨u, hu1, hu2⟩ := hB (Str.ofString "topic", .str p.1) List.mem_cons_self
            obtain ⟨u', hu1', hu2'⟩ := hB (Str.ofString "row", .list (p.2.map Dat.int)) (List.mem_cons_of_mem _ List.mem_cons_self)
            refine ev_tuple2 (b1 := 0) (b2 := 0) (ev_nameD (rd_own (x := Str.ofString "topic") rfl rfl (by decide) List.mem_cons_self hC hu1) hu2) (ev_callT (b1 := 0) (b2 := 0) (rd_cbuilt D.toTops (by kernel_rfl) (by boot_fast) (by decide) rfl rfl rfl rfl (by decide)) (ea1 (monoD (.list (p.2.map Dat.int))) (ev_nameD (rd_own (x := Str.ofString "row") rfl rfl (by decide) List.mem_cons_self hC hu1') hu2') rfl) (fun vs Y' hs pv => ?_) rfl rfl) rfl rfl
            obtain ⟨v, rfl, hv⟩ := pv
            exact ec_list hv (by rw [List.length_map]; exact e7 x hxN p hp)
      have up5 : ∀ p ∈ P, p ∈ V5 ++ (V4 ++ P2) := fun p hp => List.mem_append_right _ (up4 p hp)
      have p5 : ResAt (V5 ++ (V4 ++ P2)) vo (tl x) := p4.mono fun p hp => List.mem_append_right _ hp
      refine ls_if (b := 0) S5 (fun m cs C hm => ?_) (by omega) fun V6 k6 s6 hk6 S6 => ?_
      · have r1 : Rd c ((cs ++ ([(I, o)] ++ [])) ++ (V5 ++ (V4 ++ P2))) m (LE c fa cd) (Str.ofString "one") vo := rdl rfl (by decide) rfl hm (h4 _ _ rfl)
        obtain ⟨mm, hmm⟩ : ∃ mm, mems[i]? = some mm := ⟨_, List.getElem?_eq_getElem (by omega)⟩
        have hwok := strs_ok (wk_sub hW5 i).subset five_ok
        refine ev_or (ev_or_cons (b1 := 0) (b2 := 0) ?_ (ev_or_cons (b1 := 0) (b2 := 0) ?_ ev_or_nil))
        · refine ev_neL (b1 := 0) (b2 := 0) (ds := (wkAt W i).map Dat.str) (es := (wkAt W i).map Dat.str) (by simp) D.hu hwok hwok ?_ (ev_item (b1 := 0) (b2 := 0) (j := (i : Int)) (ds := W.map dStrs) (ev_nameD (rdc rfl (by decide) rfl C (h4 _ _ rfl)) (hvw.mono up5)) (ev_nameD (rdl rfl (by decide) rfl hm (h4 _ _ rfl)) (.int _ _)) (by omega) (by exact W_get' (k := i) (by omega)) (by rw [List.length_map]; omega) fun _ _ => rfl) rfl
          refine ev_attr (C := 40) (at_ := none) D.toTops (ev_attr (C := 87) (at_ := none) D.toTops ((ev_mitem (b1 := 0) (b2 := 0) (j := (i : Int)) (ev_name (rdl rfl (by decide) rfl hm (h4 _ _ rfl)) (monoMems _) (monoMems _ _ _ _ up5 hve)) (ev_nameD (rdl rfl (by decide) rfl hm (h4 _ _ rfl)) (.int _ _)) (by omega) (by exact hmm) (by omega) fun _ _ => rfl).imp fun Y v h => ?_) (by kernel_rfl) (by kernel_rfl) (by kernel_rfl) (by kernel_rfl) rfl) (by kernel_rfl) (by kernel_rfl) (by kernel_rfl) (by kernel_rfl) rfl
          have := mem_topics h
          rw [hmt i mm hmm] at this
          exact this
        · refine ev_neL (b1 := 0) (b2 := 0) (ds := (flatP (tl x)).map dTK) (es := (flatP (tl x)).map dTK) (by simp) D.hu hfok hfok (ev_parts (b := 0) D (ev_name r1 (monoRes _) p5) (e4 x hxN) rfl) ?_ rfl
          rw [flatP_eq]
          refine ev_comp2 (B0 := pB (Str.ofString "topic") (Str.ofString "row")) (B1 := fun e => [(Str.ofString "number", e)]) (b0 := 0) (es := pEs) (T := fun _ _ => true) (g := pG) (ds := (tl x).map dPair) rfl (by decide) rfl (by decide) (fun _ => rfl) (fun _ _ => rfl) (ei_list D.hh (dueK C hm up5 fun q hq => List.mem_append_left _ (List.mem_append_left _ hq))) ?_ ?_ (fun d hd e he => tgt_name rfl fun _ => rfl) ?_ ?_ (fun d hd e he C oC m₂ Y' hs hC hB hB1 => ev_tests0) ?_
          · rw [← flatP_eq, List.length_map]; exact e4 x hxN
          · intro d hd
            obtain ⟨p, hp, rfl⟩ := List.mem_map.mp hd
            exact tgt_pair D.hh rfl (fun _ => rfl) (fun _ => rfl) (by decide) fun _ => rfl
          · intro d e p hp
            rw [List.map_cons, List.map_nil, List.mem_singleton]
            exact pB_names (n := Str.ofString "number") (by decide) (by decide) d p hp
          · intro d hd C' oC m₂ Y' hs hC hB
            obtain ⟨p, hp, rfl⟩ := List.mem_map.mp hd
            obtain ⟨u, hu1, hu2⟩ := hB (Str.ofString "row", .list (p.2.map Dat.int)) (List.mem_cons_of_mem _ List.mem_cons_self)
            exact ei_list D.hh (ev_nameD (rd_own (x := Str.ofString "row") rfl rfl (by decide) List.mem_cons_self hC hu1) hu2)
          · intro d hd e he _ C' oC m₂ Y' hs hC hB hB1
            obtain ⟨p, hp, rfl⟩ := List.mem_map.mp hd
            obtain ⟨u, hu1, hu2⟩ := hB (Str.ofString "topic", .str p.1) List.mem_cons_self
            obtain ⟨u', hu1', hu2'⟩ := hB1 _ List.mem_cons_self
            exact ev_tuple2 (b1 := 0) (b2 := 0) (ev_nameD (rd_own (x := Str.ofString "topic") rfl rfl (by decide) List.mem_cons_self hC hu1) hu2) (ev_nameD (rd_own (x := Str.ofString "number") rfl rfl (by decide) List.mem_cons_self hC hu1') hu2') rfl rfl
      · exact wpAny_execs_nil ⟨rfl, _, _, _, _, S6, fun p hp => List.mem_append_right _ (List.mem_append_right _ (List.mem_append_right _ hp)), (h4.drop rfl).drop rfl, rfl, by omega⟩
    · rintro ρ3 M3 P3 k3 s3 hsub3 ⟨hρ3, rfl, hk3⟩ S3
      delta lw15 stm15
      exact ls_ret (b := 0) S3 (fun m cs C hm => ev_bool) (by omega) fun v V k' s' _ S' e => e ▸ next _ _ _ _ S'
end

end
section
/-! the plain law -/
theorem sz_div {q d e : Nat} (hd : 0 < d) (he : e ≤ d) : (q * d + e + d - 1) / d = q + if 0 < e then 1 else 0 := by
  by_cases h : 0 < e
  · rw [if_pos h]
    have e1 : q * d + e + d - 1 = (e - 1) + d * (q + 1) := by
      rw [Nat.mul_add, Nat.mul_comm d q]; omega
    rw [e1, Nat.add_mul_div_left _ _ hd, Nat.div_eq_of_lt (by omega)]; omega
  · rw [if_neg h]
    have e1 : q * d + e + d - 1 = (d - 1) + d * q := by
      rw [Nat.mul_comm d q]; omega
    rw [e1, Nat.add_mul_div_left _ _ hd, Nat.div_eq_of_lt (by omega)]; omega
theorem sz_at {L n j : Nat} (hj : j < n) : szOf (L - (L / n * j + min j (L % n))) n j = L / n + if j + 1 ≤ L % n then 1 else 0 := by
  unfold szOf
  have h1 := Nat.div_add_mod L n
  have h2 := Nat.mod_lt L (show 0 < n by omega)
  generalize L / n = q at *
  generalize L % n = m at *
  have h3 : q * (n - j) + q * j = q * n := by rw [← Nat.mul_add, Nat.sub_add_cancel (by omega)]
  rw [Nat.mul_comm n q] at h1
  have e1 : L - (q * j + min j m) + n - j - 1 = q * (n - j) + (m - min j m) + (n - j) - 1 := by omega
  rw [e1, sz_div (by omega) (by omega)]
  by_cases h : j + 1 ≤ m
  · rw [if_pos h, if_pos (by omega)]
  · rw [if_neg h, if_neg (by omega)]
theorem rest_drop {r : List Int} {n : Nat} : ∀ {j : Nat}, j ≤ n → restAt r n j = r.drop (r.length / n * j + min j (r.length % n))
  | 0, _ => by simp [restAt]
  | j + 1, hj => by
    have ih := rest_drop (r := r) (n := n) (j := j) (by omega)
    rw [restAt, ih, List.length_drop, sz_at (by omega), List.drop_drop, Nat.mul_add]
    congr 1
    by_cases h : j + 1 ≤ r.length % n
    · rw [if_pos h]; omega
    · rw [if_neg h]; omega
theorem cut_eq {ns : List Int} {n j : Nat} (hj : j < n) : cutOf (sortZ ns) n j = sliceOf ns n j := by
  unfold cutOf sliceOf
  rw [rest_drop (by omega), List.length_drop, sz_at hj, (sortZ_perm ns).length_eq]
theorem rest_end {r : List Int} {n : Nat} (hn : 0 < n) : restAt r n n = [] := by
  rw [rest_drop (Nat.le_refl n)]
  have h1 := Nat.div_add_mod r.length n
  have h2 := Nat.mod_lt r.length hn
  rw [Nat.mul_comm] at h1
  exact List.drop_of_length_le (by omega)
theorem cuts_all {r : List Int} {n : Nat} : ∀ j : Nat, (List.range j).flatMap (cutOf r n) ++ restAt r n j = r
  | 0 => rfl
  | j + 1 => by
    have ih := cuts_all (r := r) (n := n) j
    rw [List.range_succ, List.flatMap_append, List.append_assoc]
    have e : [j].flatMap (cutOf r n) = cutOf r n j := by simp
    rw [e, restAt]
    show _ ++ ((restAt r n j).take _ ++ (restAt r n j).drop _) = r
    rw [List.take_append_drop]; exact ih
/-- the order -/
theorem rows_of_range {Nm : List Str} {W : List (List Str)} {f : Nat → Nat} {many static : Nat} (hs : ∀ w ∈ W, w.Sublist five) (l : List Nat) (t : Str) :
    rowsOf (l.map fun j => memOf Nm W many static (f j)) t = ((l.filter fun j => decide (t ∈ wkAt W (f j)))).map fun j => ((memOf Nm W many static (f j)).own, nmAt Nm (f j)) := by
  rw [rowsOf_eq fun mm hmm => ?_, List.filter_map, List.map_map]
  · rfl
  · obtain ⟨j, _, rfl⟩ := List.mem_map.mp hmm
    exact (wk_sub hs (f j)).nodup five_nd
theorem ord_eq {Nm : List Str} {W : List (List Str)} {many static : Nat} (hs : ∀ w ∈ W, w.Sublist five) (t : Str) : ordN (msA Nm W many static) (msB Nm W many static) t = ordD Nm W many static t := by
  unfold ordN ordT ordOf ordD firstOf otherOf
  rw [List.map_append, List.map_map]
  have e0 : (List.range static).map (0 + ·) = List.range static := by simp
  have hA : (rowsOf (msA Nm W many static) t).map unst = ((List.range static).filter fun k => decide (t ∈ wkAt W k)).map fun k => (Str.ofString "g" ++ nmAt Nm (many - 1 - k), nmAt Nm k) := by
    unfold msA
    rw [show (List.range static).map (memOf Nm W many static) = (List.range static).map (fun j => memOf Nm W many static (id j)) from rfl, rows_of_range hs, List.map_map]
    refine List.map_congr_left fun k hk => ?_
    have hk := List.mem_range.mp (List.mem_filter.mp hk).1
    show unst ((memOf Nm W many static k).own, nmAt Nm k) = _
    unfold memOf unst
    rw [if_pos hk]; rfl
  have hB : (rowsOf (msB Nm W many static) t).map (·.2) = (((List.range (many - static)).map (static + ·)).filter fun k => decide (t ∈ wkAt W k)).map (nmAt Nm) := by
    unfold msB
    rw [rows_of_range hs (f := fun j => static + j), List.map_map, List.filter_map, List.map_map]; rfl
  rw [hA, e0, ← hB, jsrt_map ltS (fun r : Row => r.2) (rowsOf (msB Nm W many static) t)]
  rfl
/-- one cell -/
def ctOf (ord : List Str) (r : List Int) (x : Str) : List Int :=
  match ord.idxOf? x with
  | some q => cutOf r ord.length q
  | none => []
theorem idx_lt {ord : List Str} {x : Str} {q : Nat} (h : ord.idxOf? x = some q) : q < ord.length := (List.idxOf?_eq_some_iff.mp h).1
theorem cell_eq (ord : List Str) (r : List Int) (t x : Str) : pcD ord r t x ord.length = if x ∈ ord then [(t, ctOf ord r x)] else [] := by
  unfold pcD ctOf
  cases h : ord.idxOf? x with
  | none => rw [if_neg (List.idxOf?_eq_none_iff.mp h)]
  | some q =>
    have hx : x ∈ ord := by
      obtain ⟨h1, h2, _⟩ := List.idxOf?_eq_some_iff.mp h
      exact h2 ▸ List.getElem_mem h1
    rw [if_pos hx]
    exact if_pos (idx_lt h)
theorem piece_eq {ks : List Str} {num : Str → List Int} (ord : List Str) (t x : Str) : pieceOf (clnOf ks num) ord t x ord.length = if t ∈ ks ∧ x ∈ ord then [(t, ctOf ord (sortZ (num t)) x)] else [] := by
  unfold pieceOf
  by_cases ht : t ∈ ks
  · rw [cln_look num ht]
    unfold ctOf
    cases h : ord.idxOf? x with
    | none => rw [if_neg fun h' => List.idxOf?_eq_none_iff.mp h h'.2]
    | some q =>
      have hx : x ∈ ord := by
        obtain ⟨h1, h2, _⟩ := List.idxOf?_eq_some_iff.mp h
        exact h2 ▸ List.getElem_mem h1
      rw [if_pos ⟨ht, hx⟩]
      dsimp only
      rw [if_pos (idx_lt h), cut_eq (idx_lt h)]
  · rw [cln_none num ht, if_neg fun h => ht h.1]
theorem flat_if {α β : Type} (P : α → Bool) (f : α → β) (l : List α) : (l.flatMap fun t => if P t = true then [f t] else []) = (l.filter P).map f := by
  induction l with
  | nil => rfl
  | cons t l ih =>
    rw [List.flatMap_cons, ih, List.filter_cons]
    cases P t <;> simp
theorem told_sorted {keys ks : List Str} {p : Str → Bool} {g : Str → List Int} (hk : keys.Nodup) (hks : ks.Nodup) (h5 : ks.length ≤ 5) (hp : ∀ t ∈ ks, p t = true → t ∈ keys) :
    toldOf ((keys.filter fun t => decide (t ∈ ks) && p t).map fun t => (t, g t)) = ((jsrt ltS ks).filter p).map fun t => (t, g t) := by
  obtain ⟨K, hK⟩ : ∃ K, K = keys.filter fun t => decide (t ∈ ks) && p t := ⟨_, rfl⟩
  rw [← hK]
  have hKn : K.Nodup := hK ▸ hk.filter _
  have hperm : K.Perm (ks.filter p) := by
    rw [List.perm_ext_iff_of_nodup hKn (hks.filter _)]
    intro t
    rw [hK, List.mem_filter, List.mem_filter, Bool.and_eq_true, decide_eq_true_iff]
    exact ⟨fun h => h.2, fun h => ⟨hp t h.1 h.2, h⟩⟩
  have hK5 : K.length ≤ 5 := by rw [hperm.length_eq]; exact Nat.le_trans (List.length_filter_le _ _) h5
  have hs : jsrt ltS K = (jsrt ltS ks).filter p := by
    refine List.Perm.eq_of_pairwise (le := fun a b => ltS b a = false) (fun a b _ _ h1 h2 => ltS_tri h2 h1) (jsrt_pw ltS_ok hK5) ((jsrt_pw ltS_ok h5).filter _) ?_
    exact ((jsrt_perm ltS_ok hK5).trans hperm).trans ((jsrt_perm ltS_ok h5).filter p).symm
  unfold toldOf
  have e1 : (K.map fun t => (t, g t)).map (·.1) = K := cln_keys K g
  rw [e1, ← hs]
  refine List.map_congr_left fun t ht => ?_
  have htK : t ∈ K := (jsrt_perm ltS_ok hK5).subset ht
  have := cln_look g htK
  unfold clnOf at this
  rw [this]; rfl
theorem due_eq (Nm : List Str) (W : List (List Str)) (many static : Nat) (num : Str → List Int) (ts : List Str) (x : Str) :
    dueOf Nm W many static num ts x = (ts.filter fun t => decide (x ∈ ordD Nm W many static t)).map fun t => (t, ctOf (ordD Nm W many static t) (sortZ (num t)) x) := by
  unfold dueOf
  rw [← flat_if]
  congr 1
  funext t
  rw [cell_eq]
  simp
theorem e1_law {Nm : List Str} {W : List (List Str)} {many static : Nat} {num : Str → List Int} {ks keys : List Str} (hn : Nm.length = many) (hst : static ≤ many) (h5 : many ≤ 5) (hs : ∀ w ∈ W, w.Sublist five) (hk : keys.Nodup) (hrows : ∀ t, rowsOf (memsOf Nm W many static) t ≠ [] ↔ t ∈ keys) (hks : ks.Nodup) (h4 : ks.length ≤ 4) (x : Str) :
    toldOf (gotOf (clnOf ks num) (msA Nm W many static) (msB Nm W many static) keys x) = dueOf Nm W many static num (jsrt ltS ks) x := by
  rw [due_eq]
  unfold gotOf
  rw [← told_sorted (p := fun t => decide (x ∈ ordD Nm W many static t)) (g := fun t => ctOf (ordD Nm W many static t) (sortZ (num t)) x) hk hks (by omega), ← flat_if]
  · congr 2
    funext t
    rw [ord_eq hs, piece_eq]
    simp
  · intro t ht hx
    have hx := of_decide_eq_true hx
    rw [← hrows]
    intro h0
    have h1 := (due_perm (W := W) (Nm := Nm) hst h5 t).subset hx
    obtain ⟨k, hk, _⟩ := List.mem_map.mp h1
    have e := rows_of_range (Nm := Nm) (W := W) (f := id) (many := many) (static := static) hs (List.range many) t
    have e2 : rowsOf (memsOf Nm W many static) t = _ := e
    rw [e2] at h0
    have h2 := List.map_eq_nil_iff.mp h0
    have h3 : k ∈ (List.range many).filter fun j => decide (t ∈ wkAt W (id j)) := hk
    rw [h2] at h3; cases h3
/-- what is gathered -/
theorem flat_one {g : Str → List Int} {t : Str} : ∀ {l : List Str}, l.Nodup → ((flatP (l.map fun t => (t, g t))).filter fun p => decide (p.1 = t)).map (·.2) = if t ∈ l then g t else []
  | [], _ => rfl
  | y :: l, nd => by
    rw [List.nodup_cons] at nd
    have ih := flat_one (g := g) (t := t) nd.2
    unfold flatP at ih ⊢
    rw [List.map_cons, List.flatMap_cons, List.filter_append, List.map_append, ih]
    by_cases e : y = t
    · subst e
      rw [if_neg nd.1, if_pos List.mem_cons_self, List.append_nil]
      generalize g y = ns
      induction ns with
      | nil => rfl
      | cons n ns ih => rw [List.map_cons, List.filter_cons, if_pos (by simp), List.map_cons, ih]
    · have e1 : ((((g y).map fun k => (y, k)).filter fun p => decide (p.1 = t)).map (·.2)) = [] := by
        rw [List.filter_eq_nil_iff.mpr]
        · rfl
        · intro p hp
          obtain ⟨k, _, rfl⟩ := List.mem_map.mp hp
          simpa using e
      rw [e1, List.nil_append]
      by_cases h : t ∈ l
      · rw [if_pos h, if_pos (List.mem_cons_of_mem _ h)]
      · rw [if_neg h, if_neg (by rw [List.mem_cons, not_or]; exact ⟨Ne.symm e, h⟩)]
theorem ct_none {ord : List Str} {r : List Int} {x : Str} (h : x ∉ ord) : ctOf ord r x = [] := by
  unfold ctOf
  rw [List.idxOf?_eq_none_iff.mpr h]
theorem flat_drop {α β : Type} (P : α → Bool) (f : α → List β) (h : ∀ x, P x = false → f x = []) (l : List α) : l.flatMap f = (l.filter P).flatMap f := by
  induction l with
  | nil => rfl
  | cons x l ih =>
    rw [List.flatMap_cons, List.filter_cons, ih]
    cases e : P x
    · rw [h x e]; simp
    · simp
theorem cuts_ord {ord : List Str} (nd : ord.Nodup) (r : List Int) : ord.flatMap (ctOf ord r) = if 0 < ord.length then r else [] := by
  have gen : ∀ f : Str → List Int, ord.flatMap f = (List.range ord.length).flatMap fun i => f (nmAt ord i) := fun f => by
    conv => lhs; rw [← range_names (Nm := ord) rfl]
    rw [List.flatMap_map]
  rw [gen]
  by_cases h : 0 < ord.length
  · rw [if_pos h]
    have e := cuts_all (r := r) (n := ord.length) ord.length
    rw [rest_end h, List.append_nil] at e
    have : ∀ i ∈ List.range ord.length, ctOf ord r (nmAt ord i) = cutOf r ord.length i := fun i hi => by
      have hi := List.mem_range.mp hi
      unfold ctOf nmAt
      rw [List.getElem?_eq_getElem hi]
      have : ord.idxOf? ord[i] = some i := List.idxOf?_eq_some_iff.mpr ⟨hi, rfl, fun j hj e => by
        have := (List.getElem_inj (xs := ord) nd (h₀ := by omega) (h₁ := hi)).mp e
        omega⟩
      show (match ord.idxOf? ord[i] with | some q => cutOf r ord.length q | none => []) = _
      rw [this]
    rw [List.flatMap_def, List.map_congr_left this, ← List.flatMap_def]
    exact e
  · rw [if_neg h]
    have : ord.length = 0 := by omega
    rw [this]; rfl
theorem given_perm {Nm : List Str} {W : List (List Str)} {many static : Nat} {num : Str → List Int} {ks : List Str} {tl : Str → List (Str × List Int)} (hn : Nm.length = many) (hnd : Nm.Nodup) (hst : static ≤ many) (h5 : many ≤ 5) (hW : W.length = many) (hks : ks.Nodup) (h4 : ks.length ≤ 4) (htl : ∀ x ∈ Nm, tl x = dueOf Nm W many static num (jsrt ltS ks) x) {t : Str} (ht : t ∈ ks) :
    (givenOf Nm tl t).Perm (if 0 < (W.filter fun w => decide (t ∈ w)).length then sortZ (num t) else []) := by
  have htsn : (jsrt ltS ks).Nodup := (jsrt_perm ltS_ok (l := ks) (by omega)).symm.nodup hks
  have htt : t ∈ jsrt ltS ks := (jsrt_perm ltS_ok (l := ks) (by omega)).symm.subset ht
  have hond := due_nd (W := W) hn hnd hst h5 t
  have hosub : ∀ x ∈ ordD Nm W many static t, x ∈ Nm := fun x hx => due_mem hn hst h5 hx
  have hlen : (ordD Nm W many static t).length = (W.filter fun w => decide (t ∈ w)).length := by
    rw [(due_perm hst h5 t).length_eq, List.length_map]
    have e : W = (List.range many).map (wkAt W) := List.ext_getElem (by simp [hW]) fun i h1 h2 => by simp [wkAt, h1]
    conv => rhs; rw [e, List.filter_map, List.length_map]
    rfl
  have e1 : givenOf Nm tl t = Nm.flatMap (ctOf (ordD Nm W many static t) (sortZ (num t))) := by
    unfold givenOf
    rw [List.flatMap_def, List.flatMap_def]
    congr 1
    refine List.map_congr_left fun x hx => ?_
    rw [htl x hx, due_eq, flat_one (htsn.filter _)]
    by_cases h : x ∈ ordD Nm W many static t
    · rw [if_pos (List.mem_filter.mpr ⟨htt, decide_eq_true h⟩)]
    · rw [if_neg fun (h' : t ∈ (jsrt ltS ks).filter fun t => decide (x ∈ ordD Nm W many static t)) => h (of_decide_eq_true (p := x ∈ ordD Nm W many static t) (List.mem_filter.mp h').2), ct_none h]
  rw [e1, flat_drop (fun x => decide (x ∈ ordD Nm W many static t)) _ (fun x hx => ct_none (of_decide_eq_false hx)), ← hlen, ← cuts_ord hond]
  refine List.Perm.flatMap_right _ ?_
  rw [List.perm_ext_iff_of_nodup (hnd.filter _) hond]
  intro x
  rw [List.mem_filter, decide_eq_true_iff]
  exact ⟨fun h => h.2, fun h => ⟨hosub x h, h⟩⟩
theorem restAt_sub {r : List Int} {n : Nat} : ∀ j : Nat, (restAt r n j).length ≤ r.length
  | 0 => Nat.le_refl _
  | j + 1 => by rw [restAt, List.length_drop]; have := restAt_sub (r := r) (n := n) j; omega
theorem ct_le (ord : List Str) (r : List Int) (x : Str) : (ctOf ord r x).length ≤ r.length := by
  unfold ctOf
  split
  · unfold cutOf; rw [List.length_take]; have := restAt_sub (r := r) (n := ord.length) (by assumption); omega
  · exact Nat.zero_le _
theorem due_mem_facts {Nm : List Str} {W : List (List Str)} {many static : Nat} {num : Str → List Int} {ks : List Str} (h4 : ks.length ≤ 4) (h7 : ∀ x, (num x).length ≤ 7) {x : Str} : ∀ p ∈ dueOf Nm W many static num (jsrt ltS ks) x, p.1 ∈ ks ∧ p.2.length ≤ 7 := by
  intro p hp
  rw [due_eq] at hp
  obtain ⟨t, ht, rfl⟩ := List.mem_map.mp hp
  refine ⟨(jsrt_perm ltS_ok (l := ks) (by omega)).subset (List.mem_filter.mp ht).1, ?_⟩
  have := ct_le (ordD Nm W many static t) (sortZ (num t)) x
  rw [(sortZ_perm (num t)).length_eq] at this
  exact Nat.le_trans this (h7 t)
theorem flatP_le : ∀ prs : List (Str × List Int), (∀ p ∈ prs, p.2.length ≤ 7) → (flatP prs).length ≤ 7 * prs.length
  | [], _ => Nat.zero_le _
  | p :: prs, h => by
    have ih := flatP_le prs fun q hq => h q (List.mem_cons_of_mem _ hq)
    have := h p List.mem_cons_self
    unfold flatP at ih ⊢
    rw [List.flatMap_cons, List.length_append, List.length_map, List.length_cons]
    omega

end
section
section
variable {c : Cx} {fa : Addr} {cd : Value} {mean : ExcName → Option Value} {mg mb : Str → Option Value} {s0 s : Shared} {ρ : Str → Option Value} {P : Led} {k : Int}
theorem names5_nd : names5.Nodup := by decide
theorem names5_len : ∀ x ∈ names5, x.length ≤ 10 := by decide
/-- the law's body, from many on -/
theorem law_run {Q : Flow → Shared → Prop} (D : Deep c mean mg mb) (hdd : c.A.depth + 20 < recursionLimit) (huu : c.A.units + 200 < cLine) (S : LS c (CL c.L) s0 ρ [] [] P k s) (hh : ρ (Str.ofString "hand") = some (.ref c.hand)) (hk : k ≤ 100)
    (next : ∀ ρ' P' k' s', LS c (CL c.L) s0 ρ' [] [] P' k' s' → Q (.ret (.bool true)) s') : WL c fa cd lw1 Q s := by
  refine lawA D S hh hk fun many static t1 t2 Nm vn k1 s1 P1 hm1 hm5 hst ⟨es, hpe, hnm⟩ hnl hvn hk1 S1 => ?_
  have h0 : Hs ρ [(Str.ofString "hand", .ref c.hand)] := Hs.cons (fun x v h => by cases h) hh
  have hl1 : Hs _ (L3 c (.int many t1) (.int static t2) vn) := ((h0.add (x := Str.ofString "many") (v := .int many t1)).add (x := Str.ofString "static") (v := .int static t2)).add (x := Str.ofString "names") (v := vn)
  have hsubN : ∀ x ∈ Nm, x ∈ names5 := fun x hx => hpe.subset (List.mem_of_mem_take (hnm ▸ hx))
  have hnd : Nm.Nodup := hnm ▸ (List.take_sublist many es).nodup (hpe.symm.nodup names5_nd)
  have hln : ∀ x ∈ Nm, x.length ≤ 10 := fun x hx => names5_len x (hsubN x hx)
  refine lawB D S1 hl1 (by omega) fun j vc num ρ2 k2 s2 P2 hj1 hj4 hl2 sub2 h7 hvc hk2 S2 => ?_
  obtain ⟨ks, hks⟩ : ∃ ks, ks = topics4.take j := ⟨_, rfl⟩
  rw [← hks] at hvc
  have hksn : ks.Nodup := hks ▸ (List.take_sublist j topics4).nodup topics4_nd
  have hk4 : ks.length ≤ 4 := by rw [hks, List.length_take]; exact Nat.min_le_right _ _
  have hkt : ∀ x ∈ ks, x ∈ topics4 := fun x hx => List.mem_of_mem_take (hks ▸ hx)
  have hvn2 := hvn.mono sub2
  refine lawC D S2 hl2 (by omega) hvn2 (by omega) fun W vw ρ3 k3 s3 P3 hWl hW5 hl3 sub3 hvw hk3 S3 => ?_
  have hW : W.length = many := by omega
  have hvn3 := hvn2.mono sub3
  have hvc3 := monoDict (c := c) (fun x => monoD _) _ _ _ sub3 hvc
  refine lawD D S3 hl3 hm5 hnl hln hW (fun w hw => Nat.le_trans (hW5 w hw).length_le (by decide)) hvn3 hvw (by omega) fun ve ρ4 k4 s4 P4 hl4 sub4 hve hk4' S4 => ?_
  have hvn4 := hvn3.mono sub4
  have hvw4 := hvw.mono sub4
  have hvc4 := monoDict (c := c) (fun x => monoD _) _ _ _ sub4 hvc3
  refine lawE D hdd huu S4 hl4 hm5 hst hnl hnd hW5 hksn hk4 h7 hvc4 hve (by omega) fun vt keys ρ5 k5 s5 P5 hl5 sub5 hkn hrows hvt hk5 S5 => ?_
  have hvn5 := hvn4.mono sub5
  have hvw5 := hvw4.mono sub5
  have hvc5 := monoDict (c := c) (fun x => monoD _) _ _ _ sub5 hvc4
  have hve5 := monoMems _ _ _ _ sub5 hve
  refine lawF D S5 hl5 hm5 hst hnl hnd hln hW hW5 hkt hk4 h7 hvn5 hvw5 hvc5 (by omega) fun vd ρ6 k6 s6 P6 hl6 sub6 hvd hk6 S6 => ?_
  have he1 : ∀ x, toldOf (gotOf (clnOf ks num) (msA Nm W many static) (msB Nm W many static) keys x) = dueOf Nm W many static num (jsrt ltS ks) x := fun x => e1_law hnl hst hm5 hW5 hkn hrows hksn hk4 x
  have hvt6 : IsDict c Nm (fun x => IsRes (dueOf Nm W many static num (jsrt ltS ks) x)) P6 vt := by
    have := monoDict (c := c) (fun x => monoRes _) _ _ _ sub6 hvt
    simpa only [he1] using this
  have hf := fun x => due_mem_facts (Nm := Nm) (W := W) (many := many) (static := static) (ks := ks) hk4 h7 (x := x)
  have hdl : ∀ x, (dueOf Nm W many static num (jsrt ltS ks) x).length ≤ 4 := fun x => by
    have := due_le Nm W many static num (jsrt ltS ks) x
    rw [jsrt_len ltS_ok (by omega)] at this
    omega
  have hgp := fun t (ht : t ∈ ks) => given_perm (W := W) (num := num) (tl := fun x => dueOf Nm W many static num (jsrt ltS ks) x) hnl hnd hst hm5 hW hksn hk4 (fun _ _ => rfl) ht
  refine lawG (tl := fun x => dueOf Nm W many static num (jsrt ltS ks) x) (du := fun x => dueOf Nm W many static num (jsrt ltS ks) x) D S6 hl6 hm5 hnl hsubN hW hW5 hkt hk4 h7 (hvn5.mono sub6) (hvw5.mono sub6) (monoDict (c := c) (fun x => monoD _) _ _ _ sub6 hvc5) (monoMems _ _ _ _ sub6 hve5) (by simp [memsOf]) (fun k mm h => ?_) hvt6 hvd (fun _ _ => rfl) (fun t ht => ?_) (fun t ht => ?_) (fun x _ => ?_) (fun x _ => ?_) (fun x _ p hp => hkt _ (hf x p hp).1) (fun x _ p hp => by have := (hf x p hp).2; omega) (by omega) next
  · unfold memsOf at h
    rw [List.getElem?_map] at h
    obtain ⟨i, hi, rfl⟩ := Option.map_eq_some_iff.mp h
    have := List.getElem?_eq_some_iff.mp hi
    obtain ⟨_, e⟩ := this
    rw [List.getElem_range] at e
    subst e; rfl
  · have hp := hgp t ht
    by_cases h : 0 < (W.filter fun w => decide (t ∈ w)).length
    · rw [if_pos h] at hp ⊢
      exact ksm_same ((sortZ_perm _).trans hp) (sortZ_pw _) (sortZ_pw _)
    · rw [if_neg h] at hp ⊢
      exact ((sortZ_perm _).trans hp).eq_nil
  · rw [(hgp t ht).length_eq]
    split
    · rw [(sortZ_perm _).length_eq]; have := h7 t; omega
    · decide
  · have := flatP_le _ fun p hp => (hf x p hp).2
    have := hdl x
    omega
  · have := hdl x; omega
end

end
section
theorem cells_addrs {ρ : Str → Option Value} {l : List (Str × Addr)} {zs : Led} (C : CellsAre ρ l zs) : zs.map (·.1) = l.map (·.2) := by
  induction C with
  | nil => rfl
  | cons _ _ ih => rw [List.map_cons, List.map_cons, ih]
theorem nd8 (n : Nat) : [n + 8, n + 7, n + 6, n + 5, n + 4, n + 3, n + 2, n + 1].Nodup := by simp
theorem law_go {w : World} {A : Around} {h₀ : Heap} {L fa sc : Addr} {cd : Value} {cs : Led} {s0 : Shared} {h : Heap} {tk : Nat} {m ρ0 : Str → Option Value} {mean : ExcName → Option Value} {mg mb : Str → Option Value} {Q : Flow → Shared → Prop}
    (X : (KK w.params).In h₀) (T : Top VV (looseW VV [Str.ofString "ConsumerProtocolSubscription", Str.ofString "RangePartitionAssignor"]) mean mg mb h₀)
    (hA : ∃ dp un gd cn cs a ccd cl outer A₀ base, A = ktrTop dp un gd cn cs L a ccd cl outer ∧ Below A₀ base outer h₀ ∧ cs.kind = .function ∧ dp + 20 < recursionLimit ∧ un + 200 < cLine)
    (hsc : ∃ vs ns, h₀.IsList sc (List.toArray vs) ∧ IntsAre vs ns ∧ ns.length ≤ 63)
    (F : Fr h₀ L h m) (N : News h₀ L h cs) (C0 : CellsAre ρ0 (CL L) cs) (hs : m (Str.ofString "script") = some (.ref sc))
    (ret : ∀ h' tk' m', Fr h₀ L h' m' → Q (.ret (.bool true)) { s0 with heap := h', toks := tk' }) :
    wpAny (model PRG w) A (execs lw0 (envX (Str.ofString "law") st_13S L fa cd (CL L))) Q (fun _ _ => False) { s0 with heap := h, toks := tk } := by
  obtain ⟨ρ, hρ⟩ : ∃ ρ : Str → Option Value, ρ = fun x => if ((CL L).lookup x).isSome = true then ρ0 x else m x := ⟨_, rfl⟩
  have C : CellsAre ρ (CL L) cs := cells_cong (fun x hx => by rw [hρ]; exact (if_pos (look_some hx)).symm) C0
  have hm : ∀ x, (CL L).lookup x = none → m x = ρ x := fun x hx => by rw [hρ]; exact (if_neg (by rw [hx]; decide)).symm
  have nd : (cs.map (·.1)).Nodup := by
    rw [cells_addrs C0]
    exact nd8 L
  delta lw0 stm0
  refine wpAny_execs_cons (wpAny_Assign_Name ?_ rfl)
  refine List_ (wpAny_items_cons (nameX_L F hs (wpAny_items_cons (wpAny_Constant_int (wpAny_items_nil ?_)) rfl)) rfl)
  refine newList_K F N (fun D h' F' N' l => ?_) (by rw [sizeLine_eq]; exact Nat.le_of_ble_eq_true rfl)
  have S : LS ⟨w, A, h₀, L, D, sc⟩ (CL L) s0 ρ [] [] [] 0 { s0 with heap := h', toks := tk + 1 } := by
    refine ⟨m, cs, h', tk + 1, rfl, ⟨F', ⟨⟨tk, 0, jsub N' fun p hp => ?_⟩, fun p hp => ?_⟩, by omega⟩, C, hm, by simpa using nd, fun p hp => by cases hp⟩
    · simpa using hp
    · exact Nat.ne_of_lt (l p (by simpa using hp))
  obtain ⟨dp, un, gd, cn, cs', a, ccd, cl, outer, A₀, base, eA, hB, hkf, hd, hu⟩ := hA
  subst eA
  have De : Deep ⟨w, ktrTop dp un gd cn cs' L a ccd cl outer, h₀, L, D, sc⟩ mean mg mb := { X := X, T := T, deep := ⟨dp, un, gd, cn, cs', a, ccd, cl, outer, A₀, base, rfl, hB, hkf, by omega, by omega⟩, script := hsc }
  exact S.store (c := ⟨w, ktrTop dp un gd cn cs' L a ccd cl outer, h₀, L, D, sc⟩) rfl (cl_nodup _) (heldc rfl rfl) fun s' S' => law_run De hd hu S' upd_self (by omega) fun ρ' P' k' s'' S'' => by
    obtain ⟨m2, cs2, h2, tk2, rfl, St, _⟩ := S''
    exact ret h2 tk2 m2 St.F

end
section
noncomputable def st_0P : Arguments := fnP (st 0)
noncomputable def st_0B : List Stmt := fnB (st 0)
noncomputable def st_0S : Scope := fnS (st 0)
noncomputable def ho11 (P : Params) : Obj := ⟨(.type "tuple"), none, (.seq [].toArray 0), [].toArray⟩
noncomputable def ho12_1 (P : Params) : Obj := ⟨.none, none, (.fields [].toArray), [].toArray⟩
noncomputable def ho13 (P : Params) : Obj := ⟨(.type "code"), none, (.fields [(.str (Str.ofString "<module>") 182), (.str (Str.ofString "<module>") 183), (.str (Str.ofString "/claim/cut.py") 184), (.int 1 0), (.int 0 0), (.int 0 0), (.int 0 0), (.int 0 0), (.ref 11), (.bool false), (.int 181 0), (.ref 12), .none, .none, .none, .none, (.int 185 0), (.int 1 0), (.str (Str.ofString "/claim/cut.py") 186)].toArray), [].toArray⟩
noncomputable def ho14 (P : Params) : Obj := ⟨(.type "frame"), none, .plain, [(some (.ref 13)), (some (.ref 3)), (some (.ref 3)), none, (some (.str (Str.ofString "__main__") 164)), none, (some (.ref 0))].toArray⟩
noncomputable def ho3_4 (P : Params) : Obj := ⟨(.type "dict"), none, (.dict [⟨PyData.keyHash P (Str.ofString "__name__"), (.str (Str.ofString "__name__") 165), (.str (Str.ofString "kafka.coordinator.assignors.abstract") 194)⟩, ⟨PyData.keyHash P (Str.ofString "__doc__"), (.str (Str.ofString "__doc__") 166), .none⟩, ⟨PyData.keyHash P (Str.ofString "__package__"), (.str (Str.ofString "__package__") 167), .none⟩, ⟨PyData.keyHash P (Str.ofString "__loader__"), (.str (Str.ofString "__loader__") 168), (.builtin "__main__.__loader__#\x6fpaque")⟩, ⟨PyData.keyHash P (Str.ofString "__spec__"), (.str (Str.ofString "__spec__") 169), .none⟩, ⟨PyData.keyHash P (Str.ofString "__annotations__"), (.str (Str.ofString "__annotations__") 170), (.ref 6)⟩, ⟨PyData.keyHash P (Str.ofString "__builtins__"), (.str (Str.ofString "__builtins__") 171), (.ref 4)⟩, ⟨PyData.keyHash P (Str.ofString "__file__"), (.str (Str.ofString "__file__") 173), (.str (Str.ofString "/claim/cut.py") 172)⟩, ⟨PyData.keyHash P (Str.ofString "__cached__"), (.str (Str.ofString "__cached__") 174), .none⟩, ⟨PyData.keyHash P (Str.ofString "_wall"), (.str (Str.ofString "_wall") 193), (.ref 21)⟩, ⟨PyData.keyHash P (Str.ofString "ConsumerProtocolSubscription"), (.str (Str.ofString "ConsumerProtocolSubscription") 234), (.ref 40)⟩].toArray 11), [].toArray⟩
noncomputable def ho12_4 (P : Params) : Obj := ⟨.none, none, (.fields [(.int 1 0), (.int 0 0), (.ref 20), (.int 5 0), (.int 0 0), (.ref 27)].toArray), [].toArray⟩
noncomputable def ho15 (P : Params) : Obj := ⟨(.type "tuple"), none, (.seq [].toArray 0), [].toArray⟩
noncomputable def ho16 (P : Params) : Obj := ⟨.none, none, (.fields [].toArray), [].toArray⟩
noncomputable def ho17 (P : Params) : Obj := ⟨(.type "tuple"), none, (.seq [(.str (Str.ofString "k") 190)].toArray 0), [].toArray⟩
noncomputable def ho18 (P : Params) : Obj := ⟨(.type "tuple"), none, (.seq [].toArray 0), [].toArray⟩
noncomputable def ho19 (P : Params) : Obj := ⟨.none, none, (.func { name := (Str.ofString "_wall"), qualname := (Str.ofString "_wall"), params := st_0P, body := .stmts st_0B, scope := st_0S, globals := 0, closure := [], defaults := .none, kwdefaults := .none, doc := .none, pyModule := .none, annotations := none, code := .none, closureTuple := .none, builtins := 0 }), [].toArray⟩
noncomputable def ho20 (P : Params) : Obj := ⟨(.type "code"), none, (.fields [(.str (Str.ofString "_wall") 187), (.str (Str.ofString "_wall") 188), (.str (Str.ofString "/claim/cut.py") 189), (.int 1 0), (.int 1 0), (.int 0 0), (.int 0 0), (.int 3 0), (.ref 15), (.bool true), (.int 181 0), (.ref 16), .none, (.ref 17), (.ref 18), (.ref 19), (.int 191 0), (.int 1 0), (.str (Str.ofString "/claim/cut.py") 192)].toArray), [].toArray⟩
noncomputable def ho21 (P : Params) : Obj := ⟨(.type "function"), none, (.func { name := (Str.ofString "_wall"), qualname := (Str.ofString "_wall"), params := st_0P, body := .stmts st_0B, scope := st_0S, globals := 3, closure := [], defaults := .none, kwdefaults := .none, doc := .none, pyModule := (.str (Str.ofString "__main__") 164), annotations := none, code := (.ref 20), closureTuple := .none, builtins := 0 }), [].toArray⟩
noncomputable def ho22 (P : Params) : Obj := ⟨(.type "tuple"), none, (.seq [].toArray 0), [].toArray⟩
noncomputable def ho23 (P : Params) : Obj := ⟨(.type "builtin_function_or_method"), none, (.fields [(.builtin "type.__prepare__"), (.type "type")].toArray), [].toArray⟩
noncomputable def ho24 (P : Params) : Obj := ⟨(.type "dict"), none, (.dict [⟨PyData.keyHash P (Str.ofString "__module__"), (.str (Str.ofString "__module__") 203), (.str (Str.ofString "kafka.coordinator.assignors.abstract") 194)⟩, ⟨PyData.keyHash P (Str.ofString "__qualname__"), (.str (Str.ofString "__qualname__") 205), (.str (Str.ofString "ConsumerProtocolSubscription") 204)⟩, ⟨PyData.keyHash P (Str.ofString "__firstlineno__"), (.str (Str.ofString "__firstlineno__") 207), (.int 5 206)⟩, ⟨PyData.keyHash P (Str.ofString "__init__"), (.str (Str.ofString "__init__") 221), (.ref 37)⟩, ⟨PyData.keyHash P (Str.ofString "__static_attributes__"), (.str (Str.ofString "__static_attributes__") 227), (.ref 38)⟩].toArray 5), [].toArray⟩
noncomputable def ho25 (P : Params) : Obj := ⟨(.type "tuple"), none, (.seq [].toArray 0), [].toArray⟩
noncomputable def ho26 (P : Params) : Obj := ⟨.none, none, (.fields [(.int 7 0), (.int 4 0), (.ref 36)].toArray), [].toArray⟩
noncomputable def ho27 (P : Params) : Obj := ⟨(.type "code"), none, (.fields [(.str (Str.ofString "ConsumerProtocolSubscription") 198), (.str (Str.ofString "ConsumerProtocolSubscription") 199), (.str (Str.ofString "/claim/cut.py") 200), (.int 5 0), (.int 0 0), (.int 0 0), (.int 0 0), (.int 0 0), (.ref 25), (.bool false), (.int 181 0), (.ref 26), .none, .none, .none, .none, (.int 201 0), (.int 5 0), (.str (Str.ofString "/claim/cut.py") 202)].toArray), [].toArray⟩
noncomputable def ho28 (P : Params) : Obj := ⟨(.type "frame"), none, .plain, [(some (.ref 27)), (some (.ref 3)), (some (.ref 24)), none, (some (.str (Str.ofString "kafka.coordinator.assignors.abstract") 194)), none, (some (.ref 0))].toArray⟩
noncomputable def ho29 (P : Params) : Obj := ⟨(.type "tuple"), none, (.seq [].toArray 0), [].toArray⟩
noncomputable def ho30 (P : Params) : Obj := ⟨(.type "tuple"), none, (.seq [(.ref 29), (.int (-1) 209)].toArray 0), [].toArray⟩
noncomputable def ho31 (P : Params) : Obj := ⟨(.type "tuple"), none, (.seq [].toArray 0), [].toArray⟩
noncomputable def ho32 (P : Params) : Obj := ⟨.none, none, (.fields [].toArray), [].toArray⟩
noncomputable def ho33 (P : Params) : Obj := ⟨(.type "tuple"), none, (.seq [(.str (Str.ofString "self") 213), (.str (Str.ofString "version") 214), (.str (Str.ofString "topics") 215), (.str (Str.ofString "user_data") 216), (.str (Str.ofString "owned_partitions") 217), (.str (Str.ofString "generation_id") 218)].toArray 0), [].toArray⟩
noncomputable def ho34 (P : Params) : Obj := ⟨(.type "tuple"), none, (.seq [].toArray 0), [].toArray⟩
noncomputable def ho35 (P : Params) : Obj := ⟨.none, none, (.func { name := (Str.ofString "__init__"), qualname := (Str.ofString "ConsumerProtocolSubscription.__init__"), params := ct_2_0P, body := .stmts ct_2_0B, scope := ct_2_0S, globals := 0, closure := [], defaults := .none, kwdefaults := .none, doc := .none, pyModule := .none, annotations := none, code := .none, closureTuple := .none, builtins := 0 }), [].toArray⟩
noncomputable def ho36 (P : Params) : Obj := ⟨(.type "code"), none, (.fields [(.str (Str.ofString "__init__") 210), (.str (Str.ofString "ConsumerProtocolSubscription.__init__") 211), (.str (Str.ofString "/claim/cut.py") 212), (.int 7 0), (.int 6 0), (.int 0 0), (.int 0 0), (.int 3 0), (.ref 31), (.bool true), (.int 181 0), (.ref 32), .none, (.ref 33), (.ref 34), (.ref 35), (.int 219 0), (.int 7 0), (.str (Str.ofString "/claim/cut.py") 220)].toArray), [].toArray⟩
noncomputable def ho37 (P : Params) : Obj := ⟨(.type "function"), none, (.func { name := (Str.ofString "__init__"), qualname := (Str.ofString "ConsumerProtocolSubscription.__init__"), params := ct_2_0P, body := .stmts ct_2_0B, scope := ct_2_0S, globals := 3, closure := [], defaults := (.ref 30), kwdefaults := .none, doc := .none, pyModule := (.str (Str.ofString "kafka.coordinator.assignors.abstract") 194), annotations := none, code := (.ref 36), closureTuple := .none, builtins := 0 }), [].toArray⟩
noncomputable def ho38 (P : Params) : Obj := ⟨(.type "tuple"), none, (.seq [(.str (Str.ofString "generation_id") 222), (.str (Str.ofString "owned_partitions") 223), (.str (Str.ofString "topics") 224), (.str (Str.ofString "user_data") 225), (.str (Str.ofString "version") 226)].toArray 0), [].toArray⟩
noncomputable def ho39 (P : Params) : Obj := ⟨(.type "dict"), none, (.dict [⟨PyData.keyHash P (Str.ofString "__module__"), (.str (Str.ofString "__module__") 203), (.str (Str.ofString "kafka.coordinator.assignors.abstract") 194)⟩, ⟨PyData.keyHash P (Str.ofString "__firstlineno__"), (.str (Str.ofString "__firstlineno__") 207), (.int 5 206)⟩, ⟨PyData.keyHash P (Str.ofString "__init__"), (.str (Str.ofString "__init__") 221), (.ref 37)⟩, ⟨PyData.keyHash P (Str.ofString "__static_attributes__"), (.str (Str.ofString "__static_attributes__") 227), (.ref 38)⟩, ⟨PyData.keyHash P (Str.ofString "__dict__"), (.str (Str.ofString "__dict__") 229), (.ref 41)⟩, ⟨PyData.keyHash P (Str.ofString "__weakref__"), (.str (Str.ofString "__weakref__") 231), (.ref 42)⟩, ⟨PyData.keyHash P (Str.ofString "__doc__"), (.str (Str.ofString "__doc__") 232), .none⟩].toArray 4), [].toArray⟩
noncomputable def ho40 (P : Params) : Obj := ⟨(.type "type"), none, (.cls { name := (Str.ofString "ConsumerProtocolSubscription"), bases := [(.type "object")], mro := [(.ref 40), (.type "object")], ns := 39, qualname := (Str.ofString "ConsumerProtocolSubscription"), hasDict := true, slotNames := [], subclasses := [], abstract := false, collection := none, hasDel := false }), [none, none, (some (.str (Str.ofString "ConsumerProtocolSubscription") 196)), (some (.str (Str.ofString "ConsumerProtocolSubscription") 204)), (some (.builtin "object.__new__")), (some (.bool true))].toArray⟩
noncomputable def ho41 (P : Params) : Obj := ⟨(.type "getset_descriptor"), none, (.fields [(.str (Str.ofString "__dict__") 228), (.ref 40), (.builtin "function.__dict__"), (.builtin "function.__dict__#set")].toArray), [].toArray⟩
noncomputable def ho42 (P : Params) : Obj := ⟨(.type "getset_descriptor"), none, (.fields [(.str (Str.ofString "__weakref__") 230), (.ref 40), (.builtin "ExceptionGroup.__weakref__"), .none].toArray), [].toArray⟩
noncomputable def ho43 (P : Params) : Obj := ⟨(.type "super"), none, (.fields [(.ref 40), (.ref 40), (.ref 40)].toArray), [].toArray⟩
noncomputable def ho44 (P : Params) : Obj := ⟨(.type "builtin_function_or_method"), none, (.fields [(.builtin "object.__init_subclass__"), (.ref 40)].toArray), [].toArray⟩
noncomputable def ho3_5 (P : Params) : Obj := ⟨(.type "dict"), none, (.dict [⟨PyData.keyHash P (Str.ofString "__name__"), (.str (Str.ofString "__name__") 165), (.str (Str.ofString "kafka.coordinator.assignors.abstract") 194)⟩, ⟨PyData.keyHash P (Str.ofString "__doc__"), (.str (Str.ofString "__doc__") 166), .none⟩, ⟨PyData.keyHash P (Str.ofString "__package__"), (.str (Str.ofString "__package__") 167), .none⟩, ⟨PyData.keyHash P (Str.ofString "__loader__"), (.str (Str.ofString "__loader__") 168), (.builtin "__main__.__loader__#\x6fpaque")⟩, ⟨PyData.keyHash P (Str.ofString "__spec__"), (.str (Str.ofString "__spec__") 169), .none⟩, ⟨PyData.keyHash P (Str.ofString "__annotations__"), (.str (Str.ofString "__annotations__") 170), (.ref 6)⟩, ⟨PyData.keyHash P (Str.ofString "__builtins__"), (.str (Str.ofString "__builtins__") 171), (.ref 4)⟩, ⟨PyData.keyHash P (Str.ofString "__file__"), (.str (Str.ofString "__file__") 173), (.str (Str.ofString "/claim/cut.py") 172)⟩, ⟨PyData.keyHash P (Str.ofString "__cached__"), (.str (Str.ofString "__cached__") 174), .none⟩, ⟨PyData.keyHash P (Str.ofString "_wall"), (.str (Str.ofString "_wall") 193), (.ref 21)⟩, ⟨PyData.keyHash P (Str.ofString "ConsumerProtocolSubscription"), (.str (Str.ofString "ConsumerProtocolSubscription") 234), (.ref 40)⟩, ⟨PyData.keyHash P (Str.ofString "ConsumerProtocolAssignment"), (.str (Str.ofString "ConsumerProtocolAssignment") 273), (.ref 66)⟩].toArray 12), [].toArray⟩
noncomputable def ho12_5 (P : Params) : Obj := ⟨.none, none, (.fields [(.int 1 0), (.int 0 0), (.ref 20), (.int 5 0), (.int 0 0), (.ref 27), (.int 13 0), (.int 0 0), (.ref 50)].toArray), [].toArray⟩
noncomputable def ho45 (P : Params) : Obj := ⟨(.type "tuple"), none, (.seq [].toArray 0), [].toArray⟩
noncomputable def ho46 (P : Params) : Obj := ⟨(.type "builtin_function_or_method"), none, (.fields [(.builtin "type.__prepare__"), (.type "type")].toArray), [].toArray⟩
noncomputable def ho47 (P : Params) : Obj := ⟨(.type "dict"), none, (.dict [⟨PyData.keyHash P (Str.ofString "__module__"), (.str (Str.ofString "__module__") 242), (.str (Str.ofString "kafka.coordinator.assignors.abstract") 194)⟩, ⟨PyData.keyHash P (Str.ofString "__qualname__"), (.str (Str.ofString "__qualname__") 244), (.str (Str.ofString "ConsumerProtocolAssignment") 243)⟩, ⟨PyData.keyHash P (Str.ofString "__firstlineno__"), (.str (Str.ofString "__firstlineno__") 246), (.int 13 245)⟩, ⟨PyData.keyHash P (Str.ofString "__init__"), (.str (Str.ofString "__init__") 256), (.ref 58)⟩, ⟨PyData.keyHash P (Str.ofString "partitions"), (.str (Str.ofString "partitions") 262), (.ref 63)⟩, ⟨PyData.keyHash P (Str.ofString "__static_attributes__"), (.str (Str.ofString "__static_attributes__") 266), (.ref 64)⟩].toArray 6), [].toArray⟩
noncomputable def ho48 (P : Params) : Obj := ⟨(.type "tuple"), none, (.seq [].toArray 0), [].toArray⟩
noncomputable def ho49 (P : Params) : Obj := ⟨.none, none, (.fields [(.int 15 0), (.int 4 0), (.ref 57), (.int 20 0), (.int 4 0), (.ref 62)].toArray), [].toArray⟩
noncomputable def ho50 (P : Params) : Obj := ⟨(.type "code"), none, (.fields [(.str (Str.ofString "ConsumerProtocolAssignment") 237), (.str (Str.ofString "ConsumerProtocolAssignment") 238), (.str (Str.ofString "/claim/cut.py") 239), (.int 13 0), (.int 0 0), (.int 0 0), (.int 0 0), (.int 0 0), (.ref 48), (.bool false), (.int 181 0), (.ref 49), .none, .none, .none, .none, (.int 240 0), (.int 13 0), (.str (Str.ofString "/claim/cut.py") 241)].toArray), [].toArray⟩
noncomputable def ho51 (P : Params) : Obj := ⟨(.type "frame"), none, .plain, [(some (.ref 50)), (some (.ref 3)), (some (.ref 47)), none, (some (.str (Str.ofString "kafka.coordinator.assignors.abstract") 194)), none, (some (.ref 0))].toArray⟩
noncomputable def ho52 (P : Params) : Obj := ⟨(.type "tuple"), none, (.seq [].toArray 0), [].toArray⟩
noncomputable def ho53 (P : Params) : Obj := ⟨.none, none, (.fields [].toArray), [].toArray⟩
noncomputable def ho54 (P : Params) : Obj := ⟨(.type "tuple"), none, (.seq [(.str (Str.ofString "self") 250), (.str (Str.ofString "version") 251), (.str (Str.ofString "assigned_partitions") 252), (.str (Str.ofString "user_data") 253)].toArray 0), [].toArray⟩
noncomputable def ho55 (P : Params) : Obj := ⟨(.type "tuple"), none, (.seq [].toArray 0), [].toArray⟩
noncomputable def ho56 (P : Params) : Obj := ⟨.none, none, (.func { name := (Str.ofString "__init__"), qualname := (Str.ofString "ConsumerProtocolAssignment.__init__"), params := ct_3_0P, body := .stmts ct_3_0B, scope := ct_3_0S, globals := 0, closure := [], defaults := .none, kwdefaults := .none, doc := .none, pyModule := .none, annotations := none, code := .none, closureTuple := .none, builtins := 0 }), [].toArray⟩
noncomputable def ho57 (P : Params) : Obj := ⟨(.type "code"), none, (.fields [(.str (Str.ofString "__init__") 247), (.str (Str.ofString "ConsumerProtocolAssignment.__init__") 248), (.str (Str.ofString "/claim/cut.py") 249), (.int 15 0), (.int 4 0), (.int 0 0), (.int 0 0), (.int 3 0), (.ref 52), (.bool true), (.int 181 0), (.ref 53), .none, (.ref 54), (.ref 55), (.ref 56), (.int 254 0), (.int 15 0), (.str (Str.ofString "/claim/cut.py") 255)].toArray), [].toArray⟩
noncomputable def ho58 (P : Params) : Obj := ⟨(.type "function"), none, (.func { name := (Str.ofString "__init__"), qualname := (Str.ofString "ConsumerProtocolAssignment.__init__"), params := ct_3_0P, body := .stmts ct_3_0B, scope := ct_3_0S, globals := 3, closure := [], defaults := .none, kwdefaults := .none, doc := .none, pyModule := (.str (Str.ofString "kafka.coordinator.assignors.abstract") 194), annotations := none, code := (.ref 57), closureTuple := .none, builtins := 0 }), [].toArray⟩
noncomputable def ho59 (P : Params) : Obj := ⟨(.type "tuple"), none, (.seq [].toArray 0), [].toArray⟩
noncomputable def ho60 (P : Params) : Obj := ⟨.none, none, (.fields [].toArray), [].toArray⟩
noncomputable def ho61 (P : Params) : Obj := ⟨.none, none, (.func { name := (Str.ofString "partitions"), qualname := (Str.ofString "ConsumerProtocolAssignment.partitions"), params := ct_3_1P, body := .stmts ct_3_1B, scope := ct_3_1S, globals := 0, closure := [], defaults := .none, kwdefaults := .none, doc := .none, pyModule := .none, annotations := none, code := .none, closureTuple := .none, builtins := 0 }), [].toArray⟩
noncomputable def ho62 (P : Params) : Obj := ⟨(.type "code"), none, (.fields [(.str (Str.ofString "partitions") 257), (.str (Str.ofString "ConsumerProtocolAssignment.partitions") 258), (.str (Str.ofString "/claim/cut.py") 259), (.int 20 0), (.int 1 0), (.int 0 0), (.int 0 0), (.int 3 0), (.ref 59), (.bool true), (.int 181 0), (.ref 60), .none, .none, .none, (.ref 61), (.int 260 0), (.int 20 0), (.str (Str.ofString "/claim/cut.py") 261)].toArray), [].toArray⟩
noncomputable def ho63 (P : Params) : Obj := ⟨(.type "function"), none, (.func { name := (Str.ofString "partitions"), qualname := (Str.ofString "ConsumerProtocolAssignment.partitions"), params := ct_3_1P, body := .stmts ct_3_1B, scope := ct_3_1S, globals := 3, closure := [], defaults := .none, kwdefaults := .none, doc := .none, pyModule := (.str (Str.ofString "kafka.coordinator.assignors.abstract") 194), annotations := none, code := (.ref 62), closureTuple := .none, builtins := 0 }), [].toArray⟩
noncomputable def ho64 (P : Params) : Obj := ⟨(.type "tuple"), none, (.seq [(.str (Str.ofString "assigned_partitions") 263), (.str (Str.ofString "user_data") 264), (.str (Str.ofString "version") 265)].toArray 0), [].toArray⟩
noncomputable def ho65 (P : Params) : Obj := ⟨(.type "dict"), none, (.dict [⟨PyData.keyHash P (Str.ofString "__module__"), (.str (Str.ofString "__module__") 242), (.str (Str.ofString "kafka.coordinator.assignors.abstract") 194)⟩, ⟨PyData.keyHash P (Str.ofString "__firstlineno__"), (.str (Str.ofString "__firstlineno__") 246), (.int 13 245)⟩, ⟨PyData.keyHash P (Str.ofString "__init__"), (.str (Str.ofString "__init__") 256), (.ref 58)⟩, ⟨PyData.keyHash P (Str.ofString "partitions"), (.str (Str.ofString "partitions") 262), (.ref 63)⟩, ⟨PyData.keyHash P (Str.ofString "__static_attributes__"), (.str (Str.ofString "__static_attributes__") 266), (.ref 64)⟩, ⟨PyData.keyHash P (Str.ofString "__dict__"), (.str (Str.ofString "__dict__") 268), (.ref 67)⟩, ⟨PyData.keyHash P (Str.ofString "__weakref__"), (.str (Str.ofString "__weakref__") 270), (.ref 68)⟩, ⟨PyData.keyHash P (Str.ofString "__doc__"), (.str (Str.ofString "__doc__") 271), .none⟩].toArray 4), [].toArray⟩
noncomputable def ho66 (P : Params) : Obj := ⟨(.type "type"), none, (.cls { name := (Str.ofString "ConsumerProtocolAssignment"), bases := [(.type "object")], mro := [(.ref 66), (.type "object")], ns := 65, qualname := (Str.ofString "ConsumerProtocolAssignment"), hasDict := true, slotNames := [], subclasses := [], abstract := false, collection := none, hasDel := false }), [none, none, (some (.str (Str.ofString "ConsumerProtocolAssignment") 235)), (some (.str (Str.ofString "ConsumerProtocolAssignment") 243)), (some (.builtin "object.__new__")), (some (.bool true))].toArray⟩
noncomputable def ho67 (P : Params) : Obj := ⟨(.type "getset_descriptor"), none, (.fields [(.str (Str.ofString "__dict__") 267), (.ref 66), (.builtin "function.__dict__"), (.builtin "function.__dict__#set")].toArray), [].toArray⟩
noncomputable def ho68 (P : Params) : Obj := ⟨(.type "getset_descriptor"), none, (.fields [(.str (Str.ofString "__weakref__") 269), (.ref 66), (.builtin "ExceptionGroup.__weakref__"), .none].toArray), [].toArray⟩
noncomputable def ho69 (P : Params) : Obj := ⟨(.type "super"), none, (.fields [(.ref 66), (.ref 66), (.ref 66)].toArray), [].toArray⟩
noncomputable def ho70 (P : Params) : Obj := ⟨(.type "builtin_function_or_method"), none, (.fields [(.builtin "object.__init_subclass__"), (.ref 66)].toArray), [].toArray⟩
noncomputable def ho3_6 (P : Params) : Obj := ⟨(.type "dict"), none, (.dict [⟨PyData.keyHash P (Str.ofString "__name__"), (.str (Str.ofString "__name__") 165), (.str (Str.ofString "kafka.coordinator.assignors.abstract") 194)⟩, ⟨PyData.keyHash P (Str.ofString "__doc__"), (.str (Str.ofString "__doc__") 166), .none⟩, ⟨PyData.keyHash P (Str.ofString "__package__"), (.str (Str.ofString "__package__") 167), .none⟩, ⟨PyData.keyHash P (Str.ofString "__loader__"), (.str (Str.ofString "__loader__") 168), (.builtin "__main__.__loader__#\x6fpaque")⟩, ⟨PyData.keyHash P (Str.ofString "__spec__"), (.str (Str.ofString "__spec__") 169), .none⟩, ⟨PyData.keyHash P (Str.ofString "__annotations__"), (.str (Str.ofString "__annotations__") 170), (.ref 6)⟩, ⟨PyData.keyHash P (Str.ofString "__builtins__"), (.str (Str.ofString "__builtins__") 171), (.ref 4)⟩, ⟨PyData.keyHash P (Str.ofString "__file__"), (.str (Str.ofString "__file__") 173), (.str (Str.ofString "/claim/cut.py") 172)⟩, ⟨PyData.keyHash P (Str.ofString "__cached__"), (.str (Str.ofString "__cached__") 174), .none⟩, ⟨PyData.keyHash P (Str.ofString "_wall"), (.str (Str.ofString "_wall") 193), (.ref 21)⟩, ⟨PyData.keyHash P (Str.ofString "ConsumerProtocolSubscription"), (.str (Str.ofString "ConsumerProtocolSubscription") 234), (.ref 40)⟩, ⟨PyData.keyHash P (Str.ofString "ConsumerProtocolAssignment"), (.str (Str.ofString "ConsumerProtocolAssignment") 273), (.ref 66)⟩, ⟨PyData.keyHash P (Str.ofString "Member"), (.str (Str.ofString "Member") 306), (.ref 87)⟩].toArray 13), [].toArray⟩
noncomputable def ho12_6 (P : Params) : Obj := ⟨.none, none, (.fields [(.int 1 0), (.int 0 0), (.ref 20), (.int 5 0), (.int 0 0), (.ref 27), (.int 13 0), (.int 0 0), (.ref 50), (.int 22 0), (.int 0 0), (.ref 76)].toArray), [].toArray⟩
noncomputable def ho71 (P : Params) : Obj := ⟨(.type "tuple"), none, (.seq [].toArray 0), [].toArray⟩
noncomputable def ho72 (P : Params) : Obj := ⟨(.type "builtin_function_or_method"), none, (.fields [(.builtin "type.__prepare__"), (.type "type")].toArray), [].toArray⟩
noncomputable def ho73 (P : Params) : Obj := ⟨(.type "dict"), none, (.dict [⟨PyData.keyHash P (Str.ofString "__module__"), (.str (Str.ofString "__module__") 281), (.str (Str.ofString "kafka.coordinator.assignors.abstract") 194)⟩, ⟨PyData.keyHash P (Str.ofString "__qualname__"), (.str (Str.ofString "__qualname__") 283), (.str (Str.ofString "Member") 282)⟩, ⟨PyData.keyHash P (Str.ofString "__firstlineno__"), (.str (Str.ofString "__firstlineno__") 285), (.int 22 284)⟩, ⟨PyData.keyHash P (Str.ofString "__init__"), (.str (Str.ofString "__init__") 295), (.ref 84)⟩, ⟨PyData.keyHash P (Str.ofString "__static_attributes__"), (.str (Str.ofString "__static_attributes__") 299), (.ref 85)⟩].toArray 5), [].toArray⟩
noncomputable def ho74 (P : Params) : Obj := ⟨(.type "tuple"), none, (.seq [].toArray 0), [].toArray⟩
noncomputable def ho75 (P : Params) : Obj := ⟨.none, none, (.fields [(.int 24 0), (.int 4 0), (.ref 83)].toArray), [].toArray⟩
noncomputable def ho76 (P : Params) : Obj := ⟨(.type "code"), none, (.fields [(.str (Str.ofString "Member") 276), (.str (Str.ofString "Member") 277), (.str (Str.ofString "/claim/cut.py") 278), (.int 22 0), (.int 0 0), (.int 0 0), (.int 0 0), (.int 0 0), (.ref 74), (.bool false), (.int 181 0), (.ref 75), .none, .none, .none, .none, (.int 279 0), (.int 22 0), (.str (Str.ofString "/claim/cut.py") 280)].toArray), [].toArray⟩
noncomputable def ho77 (P : Params) : Obj := ⟨(.type "frame"), none, .plain, [(some (.ref 76)), (some (.ref 3)), (some (.ref 73)), none, (some (.str (Str.ofString "kafka.coordinator.assignors.abstract") 194)), none, (some (.ref 0))].toArray⟩
noncomputable def ho78 (P : Params) : Obj := ⟨(.type "tuple"), none, (.seq [].toArray 0), [].toArray⟩
noncomputable def ho79 (P : Params) : Obj := ⟨.none, none, (.fields [].toArray), [].toArray⟩
noncomputable def ho80 (P : Params) : Obj := ⟨(.type "tuple"), none, (.seq [(.str (Str.ofString "self") 289), (.str (Str.ofString "member_id") 290), (.str (Str.ofString "group_instance_id") 291), (.str (Str.ofString "metadata") 292)].toArray 0), [].toArray⟩
noncomputable def ho81 (P : Params) : Obj := ⟨(.type "tuple"), none, (.seq [].toArray 0), [].toArray⟩
noncomputable def ho82 (P : Params) : Obj := ⟨.none, none, (.func { name := (Str.ofString "__init__"), qualname := (Str.ofString "Member.__init__"), params := ct_4_0P, body := .stmts ct_4_0B, scope := ct_4_0S, globals := 0, closure := [], defaults := .none, kwdefaults := .none, doc := .none, pyModule := .none, annotations := none, code := .none, closureTuple := .none, builtins := 0 }), [].toArray⟩
noncomputable def ho83 (P : Params) : Obj := ⟨(.type "code"), none, (.fields [(.str (Str.ofString "__init__") 286), (.str (Str.ofString "Member.__init__") 287), (.str (Str.ofString "/claim/cut.py") 288), (.int 24 0), (.int 4 0), (.int 0 0), (.int 0 0), (.int 3 0), (.ref 78), (.bool true), (.int 181 0), (.ref 79), .none, (.ref 80), (.ref 81), (.ref 82), (.int 293 0), (.int 24 0), (.str (Str.ofString "/claim/cut.py") 294)].toArray), [].toArray⟩
noncomputable def ho84 (P : Params) : Obj := ⟨(.type "function"), none, (.func { name := (Str.ofString "__init__"), qualname := (Str.ofString "Member.__init__"), params := ct_4_0P, body := .stmts ct_4_0B, scope := ct_4_0S, globals := 3, closure := [], defaults := .none, kwdefaults := .none, doc := .none, pyModule := (.str (Str.ofString "kafka.coordinator.assignors.abstract") 194), annotations := none, code := (.ref 83), closureTuple := .none, builtins := 0 }), [].toArray⟩
noncomputable def ho85 (P : Params) : Obj := ⟨(.type "tuple"), none, (.seq [(.str (Str.ofString "group_instance_id") 296), (.str (Str.ofString "member_id") 297), (.str (Str.ofString "metadata") 298)].toArray 0), [].toArray⟩
noncomputable def ho86 (P : Params) : Obj := ⟨(.type "dict"), none, (.dict [⟨PyData.keyHash P (Str.ofString "__module__"), (.str (Str.ofString "__module__") 281), (.str (Str.ofString "kafka.coordinator.assignors.abstract") 194)⟩, ⟨PyData.keyHash P (Str.ofString "__firstlineno__"), (.str (Str.ofString "__firstlineno__") 285), (.int 22 284)⟩, ⟨PyData.keyHash P (Str.ofString "__init__"), (.str (Str.ofString "__init__") 295), (.ref 84)⟩, ⟨PyData.keyHash P (Str.ofString "__static_attributes__"), (.str (Str.ofString "__static_attributes__") 299), (.ref 85)⟩, ⟨PyData.keyHash P (Str.ofString "__dict__"), (.str (Str.ofString "__dict__") 301), (.ref 88)⟩, ⟨PyData.keyHash P (Str.ofString "__weakref__"), (.str (Str.ofString "__weakref__") 303), (.ref 89)⟩, ⟨PyData.keyHash P (Str.ofString "__doc__"), (.str (Str.ofString "__doc__") 304), .none⟩].toArray 4), [].toArray⟩
noncomputable def ho87 (P : Params) : Obj := ⟨(.type "type"), none, (.cls { name := (Str.ofString "Member"), bases := [(.type "object")], mro := [(.ref 87), (.type "object")], ns := 86, qualname := (Str.ofString "Member"), hasDict := true, slotNames := [], subclasses := [], abstract := false, collection := none, hasDel := false }), [none, none, (some (.str (Str.ofString "Member") 274)), (some (.str (Str.ofString "Member") 282)), (some (.builtin "object.__new__")), (some (.bool true))].toArray⟩
noncomputable def ho88 (P : Params) : Obj := ⟨(.type "getset_descriptor"), none, (.fields [(.str (Str.ofString "__dict__") 300), (.ref 87), (.builtin "function.__dict__"), (.builtin "function.__dict__#set")].toArray), [].toArray⟩
noncomputable def ho89 (P : Params) : Obj := ⟨(.type "getset_descriptor"), none, (.fields [(.str (Str.ofString "__weakref__") 302), (.ref 87), (.builtin "ExceptionGroup.__weakref__"), .none].toArray), [].toArray⟩
noncomputable def ho90 (P : Params) : Obj := ⟨(.type "super"), none, (.fields [(.ref 87), (.ref 87), (.ref 87)].toArray), [].toArray⟩
noncomputable def ho91 (P : Params) : Obj := ⟨(.type "builtin_function_or_method"), none, (.fields [(.builtin "object.__init_subclass__"), (.ref 87)].toArray), [].toArray⟩
noncomputable def ho3_7 (P : Params) : Obj := ⟨(.type "dict"), none, (.dict [⟨PyData.keyHash P (Str.ofString "__name__"), (.str (Str.ofString "__name__") 165), (.str (Str.ofString "kafka.coordinator.assignors.abstract") 194)⟩, ⟨PyData.keyHash P (Str.ofString "__doc__"), (.str (Str.ofString "__doc__") 166), .none⟩, ⟨PyData.keyHash P (Str.ofString "__package__"), (.str (Str.ofString "__package__") 167), .none⟩, ⟨PyData.keyHash P (Str.ofString "__loader__"), (.str (Str.ofString "__loader__") 168), (.builtin "__main__.__loader__#\x6fpaque")⟩, ⟨PyData.keyHash P (Str.ofString "__spec__"), (.str (Str.ofString "__spec__") 169), .none⟩, ⟨PyData.keyHash P (Str.ofString "__annotations__"), (.str (Str.ofString "__annotations__") 170), (.ref 6)⟩, ⟨PyData.keyHash P (Str.ofString "__builtins__"), (.str (Str.ofString "__builtins__") 171), (.ref 4)⟩, ⟨PyData.keyHash P (Str.ofString "__file__"), (.str (Str.ofString "__file__") 173), (.str (Str.ofString "/claim/cut.py") 172)⟩, ⟨PyData.keyHash P (Str.ofString "__cached__"), (.str (Str.ofString "__cached__") 174), .none⟩, ⟨PyData.keyHash P (Str.ofString "_wall"), (.str (Str.ofString "_wall") 193), (.ref 21)⟩, ⟨PyData.keyHash P (Str.ofString "ConsumerProtocolSubscription"), (.str (Str.ofString "ConsumerProtocolSubscription") 234), (.ref 40)⟩, ⟨PyData.keyHash P (Str.ofString "ConsumerProtocolAssignment"), (.str (Str.ofString "ConsumerProtocolAssignment") 273), (.ref 66)⟩, ⟨PyData.keyHash P (Str.ofString "Member"), (.str (Str.ofString "Member") 306), (.ref 87)⟩, ⟨PyData.keyHash P (Str.ofString "Cluster"), (.str (Str.ofString "Cluster") 350), (.ref 122)⟩].toArray 14), [].toArray⟩
noncomputable def ho12_7 (P : Params) : Obj := ⟨.none, none, (.fields [(.int 1 0), (.int 0 0), (.ref 20), (.int 5 0), (.int 0 0), (.ref 27), (.int 13 0), (.int 0 0), (.ref 50), (.int 22 0), (.int 0 0), (.ref 76), (.int 28 0), (.int 0 0), (.ref 97)].toArray), [].toArray⟩
noncomputable def ho92 (P : Params) : Obj := ⟨(.type "tuple"), none, (.seq [].toArray 0), [].toArray⟩
noncomputable def ho93 (P : Params) : Obj := ⟨(.type "builtin_function_or_method"), none, (.fields [(.builtin "type.__prepare__"), (.type "type")].toArray), [].toArray⟩
noncomputable def ho94 (P : Params) : Obj := ⟨(.type "dict"), none, (.dict [⟨PyData.keyHash P (Str.ofString "__module__"), (.str (Str.ofString "__module__") 314), (.str (Str.ofString "kafka.coordinator.assignors.abstract") 194)⟩, ⟨PyData.keyHash P (Str.ofString "__qualname__"), (.str (Str.ofString "__qualname__") 316), (.str (Str.ofString "Cluster") 315)⟩, ⟨PyData.keyHash P (Str.ofString "__firstlineno__"), (.str (Str.ofString "__firstlineno__") 318), (.int 28 317)⟩, ⟨PyData.keyHash P (Str.ofString "__init__"), (.str (Str.ofString "__init__") 326), (.ref 105)⟩, ⟨PyData.keyHash P (Str.ofString "topics"), (.str (Str.ofString "topics") 333), (.ref 112)⟩, ⟨PyData.keyHash P (Str.ofString "partitions_for_topic"), (.str (Str.ofString "partitions_for_topic") 341), (.ref 119)⟩, ⟨PyData.keyHash P (Str.ofString "__static_attributes__"), (.str (Str.ofString "__static_attributes__") 343), (.ref 120)⟩].toArray 7), [].toArray⟩
noncomputable def ho95 (P : Params) : Obj := ⟨(.type "tuple"), none, (.seq [].toArray 0), [].toArray⟩
noncomputable def ho96 (P : Params) : Obj := ⟨.none, none, (.fields [(.int 30 0), (.int 4 0), (.ref 104), (.int 33 0), (.int 4 0), (.ref 111), (.int 36 0), (.int 4 0), (.ref 118)].toArray), [].toArray⟩
noncomputable def ho97 (P : Params) : Obj := ⟨(.type "code"), none, (.fields [(.str (Str.ofString "Cluster") 309), (.str (Str.ofString "Cluster") 310), (.str (Str.ofString "/claim/cut.py") 311), (.int 28 0), (.int 0 0), (.int 0 0), (.int 0 0), (.int 0 0), (.ref 95), (.bool false), (.int 181 0), (.ref 96), .none, .none, .none, .none, (.int 312 0), (.int 28 0), (.str (Str.ofString "/claim/cut.py") 313)].toArray), [].toArray⟩
noncomputable def ho98 (P : Params) : Obj := ⟨(.type "frame"), none, .plain, [(some (.ref 97)), (some (.ref 3)), (some (.ref 94)), none, (some (.str (Str.ofString "kafka.coordinator.assignors.abstract") 194)), none, (some (.ref 0))].toArray⟩
noncomputable def ho99 (P : Params) : Obj := ⟨(.type "tuple"), none, (.seq [].toArray 0), [].toArray⟩
noncomputable def ho100 (P : Params) : Obj := ⟨.none, none, (.fields [].toArray), [].toArray⟩
noncomputable def ho101 (P : Params) : Obj := ⟨(.type "tuple"), none, (.seq [(.str (Str.ofString "self") 322), (.str (Str.ofString "partitions") 323)].toArray 0), [].toArray⟩
noncomputable def ho102 (P : Params) : Obj := ⟨(.type "tuple"), none, (.seq [].toArray 0), [].toArray⟩
noncomputable def ho103 (P : Params) : Obj := ⟨.none, none, (.func { name := (Str.ofString "__init__"), qualname := (Str.ofString "Cluster.__init__"), params := ct_5_0P, body := .stmts ct_5_0B, scope := ct_5_0S, globals := 0, closure := [], defaults := .none, kwdefaults := .none, doc := .none, pyModule := .none, annotations := none, code := .none, closureTuple := .none, builtins := 0 }), [].toArray⟩
noncomputable def ho104 (P : Params) : Obj := ⟨(.type "code"), none, (.fields [(.str (Str.ofString "__init__") 319), (.str (Str.ofString "Cluster.__init__") 320), (.str (Str.ofString "/claim/cut.py") 321), (.int 30 0), (.int 2 0), (.int 0 0), (.int 0 0), (.int 3 0), (.ref 99), (.bool true), (.int 181 0), (.ref 100), .none, (.ref 101), (.ref 102), (.ref 103), (.int 324 0), (.int 30 0), (.str (Str.ofString "/claim/cut.py") 325)].toArray), [].toArray⟩
noncomputable def ho105 (P : Params) : Obj := ⟨(.type "function"), none, (.func { name := (Str.ofString "__init__"), qualname := (Str.ofString "Cluster.__init__"), params := ct_5_0P, body := .stmts ct_5_0B, scope := ct_5_0S, globals := 3, closure := [], defaults := .none, kwdefaults := .none, doc := .none, pyModule := (.str (Str.ofString "kafka.coordinator.assignors.abstract") 194), annotations := none, code := (.ref 104), closureTuple := .none, builtins := 0 }), [].toArray⟩
noncomputable def ho106 (P : Params) : Obj := ⟨(.type "tuple"), none, (.seq [].toArray 0), [].toArray⟩
noncomputable def ho107 (P : Params) : Obj := ⟨.none, none, (.fields [].toArray), [].toArray⟩
noncomputable def ho108 (P : Params) : Obj := ⟨(.type "tuple"), none, (.seq [(.str (Str.ofString "self") 330)].toArray 0), [].toArray⟩
noncomputable def ho109 (P : Params) : Obj := ⟨(.type "tuple"), none, (.seq [].toArray 0), [].toArray⟩
noncomputable def ho110 (P : Params) : Obj := ⟨.none, none, (.func { name := (Str.ofString "topics"), qualname := (Str.ofString "Cluster.topics"), params := ct_5_1P, body := .stmts ct_5_1B, scope := ct_5_1S, globals := 0, closure := [], defaults := .none, kwdefaults := .none, doc := .none, pyModule := .none, annotations := none, code := .none, closureTuple := .none, builtins := 0 }), [].toArray⟩
noncomputable def ho111 (P : Params) : Obj := ⟨(.type "code"), none, (.fields [(.str (Str.ofString "topics") 327), (.str (Str.ofString "Cluster.topics") 328), (.str (Str.ofString "/claim/cut.py") 329), (.int 33 0), (.int 1 0), (.int 0 0), (.int 0 0), (.int 3 0), (.ref 106), (.bool true), (.int 181 0), (.ref 107), .none, (.ref 108), (.ref 109), (.ref 110), (.int 331 0), (.int 33 0), (.str (Str.ofString "/claim/cut.py") 332)].toArray), [].toArray⟩
noncomputable def ho112 (P : Params) : Obj := ⟨(.type "function"), none, (.func { name := (Str.ofString "topics"), qualname := (Str.ofString "Cluster.topics"), params := ct_5_1P, body := .stmts ct_5_1B, scope := ct_5_1S, globals := 3, closure := [], defaults := .none, kwdefaults := .none, doc := .none, pyModule := (.str (Str.ofString "kafka.coordinator.assignors.abstract") 194), annotations := none, code := (.ref 111), closureTuple := .none, builtins := 0 }), [].toArray⟩
noncomputable def ho113 (P : Params) : Obj := ⟨(.type "tuple"), none, (.seq [].toArray 0), [].toArray⟩
noncomputable def ho114 (P : Params) : Obj := ⟨.none, none, (.fields [].toArray), [].toArray⟩
noncomputable def ho115 (P : Params) : Obj := ⟨(.type "tuple"), none, (.seq [(.str (Str.ofString "self") 337), (.str (Str.ofString "topic") 338)].toArray 0), [].toArray⟩
noncomputable def ho116 (P : Params) : Obj := ⟨(.type "tuple"), none, (.seq [].toArray 0), [].toArray⟩
noncomputable def ho117 (P : Params) : Obj := ⟨.none, none, (.func { name := (Str.ofString "partitions_for_topic"), qualname := (Str.ofString "Cluster.partitions_for_topic"), params := ct_5_2P, body := .stmts ct_5_2B, scope := ct_5_2S, globals := 0, closure := [], defaults := .none, kwdefaults := .none, doc := .none, pyModule := .none, annotations := none, code := .none, closureTuple := .none, builtins := 0 }), [].toArray⟩
noncomputable def ho118 (P : Params) : Obj := ⟨(.type "code"), none, (.fields [(.str (Str.ofString "partitions_for_topic") 334), (.str (Str.ofString "Cluster.partitions_for_topic") 335), (.str (Str.ofString "/claim/cut.py") 336), (.int 36 0), (.int 2 0), (.int 0 0), (.int 0 0), (.int 3 0), (.ref 113), (.bool true), (.int 181 0), (.ref 114), .none, (.ref 115), (.ref 116), (.ref 117), (.int 339 0), (.int 36 0), (.str (Str.ofString "/claim/cut.py") 340)].toArray), [].toArray⟩
noncomputable def ho119 (P : Params) : Obj := ⟨(.type "function"), none, (.func { name := (Str.ofString "partitions_for_topic"), qualname := (Str.ofString "Cluster.partitions_for_topic"), params := ct_5_2P, body := .stmts ct_5_2B, scope := ct_5_2S, globals := 3, closure := [], defaults := .none, kwdefaults := .none, doc := .none, pyModule := (.str (Str.ofString "kafka.coordinator.assignors.abstract") 194), annotations := none, code := (.ref 118), closureTuple := .none, builtins := 0 }), [].toArray⟩
noncomputable def ho120 (P : Params) : Obj := ⟨(.type "tuple"), none, (.seq [(.str (Str.ofString "_partitions") 342)].toArray 0), [].toArray⟩
noncomputable def ho121 (P : Params) : Obj := ⟨(.type "dict"), none, (.dict [⟨PyData.keyHash P (Str.ofString "__module__"), (.str (Str.ofString "__module__") 314), (.str (Str.ofString "kafka.coordinator.assignors.abstract") 194)⟩, ⟨PyData.keyHash P (Str.ofString "__firstlineno__"), (.str (Str.ofString "__firstlineno__") 318), (.int 28 317)⟩, ⟨PyData.keyHash P (Str.ofString "__init__"), (.str (Str.ofString "__init__") 326), (.ref 105)⟩, ⟨PyData.keyHash P (Str.ofString "topics"), (.str (Str.ofString "topics") 333), (.ref 112)⟩, ⟨PyData.keyHash P (Str.ofString "partitions_for_topic"), (.str (Str.ofString "partitions_for_topic") 341), (.ref 119)⟩, ⟨PyData.keyHash P (Str.ofString "__static_attributes__"), (.str (Str.ofString "__static_attributes__") 343), (.ref 120)⟩, ⟨PyData.keyHash P (Str.ofString "__dict__"), (.str (Str.ofString "__dict__") 345), (.ref 123)⟩, ⟨PyData.keyHash P (Str.ofString "__weakref__"), (.str (Str.ofString "__weakref__") 347), (.ref 124)⟩, ⟨PyData.keyHash P (Str.ofString "__doc__"), (.str (Str.ofString "__doc__") 348), .none⟩].toArray 4), [].toArray⟩
noncomputable def ho122 (P : Params) : Obj := ⟨(.type "type"), none, (.cls { name := (Str.ofString "Cluster"), bases := [(.type "object")], mro := [(.ref 122), (.type "object")], ns := 121, qualname := (Str.ofString "Cluster"), hasDict := true, slotNames := [], subclasses := [], abstract := false, collection := none, hasDel := false }), [none, none, (some (.str (Str.ofString "Cluster") 307)), (some (.str (Str.ofString "Cluster") 315)), (some (.builtin "object.__new__")), (some (.bool true))].toArray⟩
noncomputable def ho123 (P : Params) : Obj := ⟨(.type "getset_descriptor"), none, (.fields [(.str (Str.ofString "__dict__") 344), (.ref 122), (.builtin "function.__dict__"), (.builtin "function.__dict__#set")].toArray), [].toArray⟩
noncomputable def ho124 (P : Params) : Obj := ⟨(.type "getset_descriptor"), none, (.fields [(.str (Str.ofString "__weakref__") 346), (.ref 122), (.builtin "ExceptionGroup.__weakref__"), .none].toArray), [].toArray⟩
noncomputable def ho125 (P : Params) : Obj := ⟨(.type "super"), none, (.fields [(.ref 122), (.ref 122), (.ref 122)].toArray), [].toArray⟩
noncomputable def ho126 (P : Params) : Obj := ⟨(.type "builtin_function_or_method"), none, (.fields [(.builtin "object.__init_subclass__"), (.ref 122)].toArray), [].toArray⟩
noncomputable def ho3_10 (P : Params) : Obj := ⟨(.type "dict"), none, (.dict [⟨PyData.keyHash P (Str.ofString "__name__"), (.str (Str.ofString "__name__") 165), (.str (Str.ofString "kafka.coordinator.assignors.range") 369)⟩, ⟨PyData.keyHash P (Str.ofString "__doc__"), (.str (Str.ofString "__doc__") 166), .none⟩, ⟨PyData.keyHash P (Str.ofString "__package__"), (.str (Str.ofString "__package__") 167), .none⟩, ⟨PyData.keyHash P (Str.ofString "__loader__"), (.str (Str.ofString "__loader__") 168), (.builtin "__main__.__loader__#\x6fpaque")⟩, ⟨PyData.keyHash P (Str.ofString "__spec__"), (.str (Str.ofString "__spec__") 169), .none⟩, ⟨PyData.keyHash P (Str.ofString "__annotations__"), (.str (Str.ofString "__annotations__") 170), (.ref 6)⟩, ⟨PyData.keyHash P (Str.ofString "__builtins__"), (.str (Str.ofString "__builtins__") 171), (.ref 4)⟩, ⟨PyData.keyHash P (Str.ofString "__file__"), (.str (Str.ofString "__file__") 173), (.str (Str.ofString "/claim/cut.py") 172)⟩, ⟨PyData.keyHash P (Str.ofString "__cached__"), (.str (Str.ofString "__cached__") 174), .none⟩, ⟨PyData.keyHash P (Str.ofString "_wall"), (.str (Str.ofString "_wall") 193), (.ref 21)⟩, ⟨PyData.keyHash P (Str.ofString "ConsumerProtocolSubscription"), (.str (Str.ofString "ConsumerProtocolSubscription") 234), (.ref 40)⟩, ⟨PyData.keyHash P (Str.ofString "ConsumerProtocolAssignment"), (.str (Str.ofString "ConsumerProtocolAssignment") 273), (.ref 66)⟩, ⟨PyData.keyHash P (Str.ofString "Member"), (.str (Str.ofString "Member") 306), (.ref 87)⟩, ⟨PyData.keyHash P (Str.ofString "Cluster"), (.str (Str.ofString "Cluster") 350), (.ref 122)⟩, ⟨PyData.keyHash P (Str.ofString "grouped_by_kind"), (.str (Str.ofString "grouped_by_kind") 361), (.ref 133)⟩, ⟨PyData.keyHash P (Str.ofString "member_of"), (.str (Str.ofString "member_of") 368), (.ref 140)⟩].toArray 16), [].toArray⟩
noncomputable def ho12_10 (P : Params) : Obj := ⟨.none, none, (.fields [(.int 1 0), (.int 0 0), (.ref 20), (.int 5 0), (.int 0 0), (.ref 27), (.int 13 0), (.int 0 0), (.ref 50), (.int 22 0), (.int 0 0), (.ref 76), (.int 28 0), (.int 0 0), (.ref 97), (.int 38 0), (.int 0 0), (.ref 132), (.int 48 0), (.int 0 0), (.ref 139)].toArray), [].toArray⟩
noncomputable def ho127 (P : Params) : Obj := ⟨(.type "tuple"), none, (.seq [].toArray 0), [].toArray⟩
noncomputable def ho128 (P : Params) : Obj := ⟨.none, none, (.fields [].toArray), [].toArray⟩
noncomputable def ho129 (P : Params) : Obj := ⟨(.type "tuple"), none, (.seq [(.str (Str.ofString "rows") 354), (.str (Str.ofString "grouped") 355), (.str (Str.ofString "last") 356), (.str (Str.ofString "ids") 357), (.str (Str.ofString "kind") 358)].toArray 0), [].toArray⟩
noncomputable def ho130 (P : Params) : Obj := ⟨(.type "tuple"), none, (.seq [].toArray 0), [].toArray⟩
noncomputable def ho131 (P : Params) : Obj := ⟨.none, none, (.func { name := (Str.ofString "grouped_by_kind"), qualname := (Str.ofString "grouped_by_kind"), params := st_6P, body := .stmts st_6B, scope := st_6S, globals := 0, closure := [], defaults := .none, kwdefaults := .none, doc := .none, pyModule := .none, annotations := none, code := .none, closureTuple := .none, builtins := 0 }), [].toArray⟩
noncomputable def ho132 (P : Params) : Obj := ⟨(.type "code"), none, (.fields [(.str (Str.ofString "grouped_by_kind") 351), (.str (Str.ofString "grouped_by_kind") 352), (.str (Str.ofString "/claim/cut.py") 353), (.int 38 0), (.int 1 0), (.int 0 0), (.int 0 0), (.int 3 0), (.ref 127), (.bool true), (.int 181 0), (.ref 128), .none, (.ref 129), (.ref 130), (.ref 131), (.int 359 0), (.int 38 0), (.str (Str.ofString "/claim/cut.py") 360)].toArray), [].toArray⟩
noncomputable def ho133 (P : Params) : Obj := ⟨(.type "function"), none, (.func { name := (Str.ofString "grouped_by_kind"), qualname := (Str.ofString "grouped_by_kind"), params := st_6P, body := .stmts st_6B, scope := st_6S, globals := 3, closure := [], defaults := .none, kwdefaults := .none, doc := .none, pyModule := (.str (Str.ofString "kafka.coordinator.assignors.abstract") 194), annotations := none, code := (.ref 132), closureTuple := .none, builtins := 0 }), [].toArray⟩
noncomputable def ho134 (P : Params) : Obj := ⟨(.type "tuple"), none, (.seq [].toArray 0), [].toArray⟩
noncomputable def ho135 (P : Params) : Obj := ⟨.none, none, (.fields [].toArray), [].toArray⟩
noncomputable def ho136 (P : Params) : Obj := ⟨(.type "tuple"), none, (.seq [(.str (Str.ofString "ids") 365)].toArray 0), [].toArray⟩
noncomputable def ho137 (P : Params) : Obj := ⟨(.type "tuple"), none, (.seq [].toArray 0), [].toArray⟩
noncomputable def ho138 (P : Params) : Obj := ⟨.none, none, (.func { name := (Str.ofString "member_of"), qualname := (Str.ofString "member_of"), params := st_7P, body := .stmts st_7B, scope := st_7S, globals := 0, closure := [], defaults := .none, kwdefaults := .none, doc := .none, pyModule := .none, annotations := none, code := .none, closureTuple := .none, builtins := 0 }), [].toArray⟩
noncomputable def ho139 (P : Params) : Obj := ⟨(.type "code"), none, (.fields [(.str (Str.ofString "member_of") 362), (.str (Str.ofString "member_of") 363), (.str (Str.ofString "/claim/cut.py") 364), (.int 48 0), (.int 1 0), (.int 0 0), (.int 0 0), (.int 3 0), (.ref 134), (.bool true), (.int 181 0), (.ref 135), .none, (.ref 136), (.ref 137), (.ref 138), (.int 366 0), (.int 48 0), (.str (Str.ofString "/claim/cut.py") 367)].toArray), [].toArray⟩
noncomputable def ho140 (P : Params) : Obj := ⟨(.type "function"), none, (.func { name := (Str.ofString "member_of"), qualname := (Str.ofString "member_of"), params := st_7P, body := .stmts st_7B, scope := st_7S, globals := 3, closure := [], defaults := .none, kwdefaults := .none, doc := .none, pyModule := (.str (Str.ofString "kafka.coordinator.assignors.abstract") 194), annotations := none, code := (.ref 139), closureTuple := .none, builtins := 0 }), [].toArray⟩
noncomputable def ho3_11 (P : Params) : Obj := ⟨(.type "dict"), none, (.dict [⟨PyData.keyHash P (Str.ofString "__name__"), (.str (Str.ofString "__name__") 165), (.str (Str.ofString "kafka.coordinator.assignors.range") 369)⟩, ⟨PyData.keyHash P (Str.ofString "__doc__"), (.str (Str.ofString "__doc__") 166), .none⟩, ⟨PyData.keyHash P (Str.ofString "__package__"), (.str (Str.ofString "__package__") 167), .none⟩, ⟨PyData.keyHash P (Str.ofString "__loader__"), (.str (Str.ofString "__loader__") 168), (.builtin "__main__.__loader__#\x6fpaque")⟩, ⟨PyData.keyHash P (Str.ofString "__spec__"), (.str (Str.ofString "__spec__") 169), .none⟩, ⟨PyData.keyHash P (Str.ofString "__annotations__"), (.str (Str.ofString "__annotations__") 170), (.ref 6)⟩, ⟨PyData.keyHash P (Str.ofString "__builtins__"), (.str (Str.ofString "__builtins__") 171), (.ref 4)⟩, ⟨PyData.keyHash P (Str.ofString "__file__"), (.str (Str.ofString "__file__") 173), (.str (Str.ofString "/claim/cut.py") 172)⟩, ⟨PyData.keyHash P (Str.ofString "__cached__"), (.str (Str.ofString "__cached__") 174), .none⟩, ⟨PyData.keyHash P (Str.ofString "_wall"), (.str (Str.ofString "_wall") 193), (.ref 21)⟩, ⟨PyData.keyHash P (Str.ofString "ConsumerProtocolSubscription"), (.str (Str.ofString "ConsumerProtocolSubscription") 234), (.ref 40)⟩, ⟨PyData.keyHash P (Str.ofString "ConsumerProtocolAssignment"), (.str (Str.ofString "ConsumerProtocolAssignment") 273), (.ref 66)⟩, ⟨PyData.keyHash P (Str.ofString "Member"), (.str (Str.ofString "Member") 306), (.ref 87)⟩, ⟨PyData.keyHash P (Str.ofString "Cluster"), (.str (Str.ofString "Cluster") 350), (.ref 122)⟩, ⟨PyData.keyHash P (Str.ofString "grouped_by_kind"), (.str (Str.ofString "grouped_by_kind") 361), (.ref 133)⟩, ⟨PyData.keyHash P (Str.ofString "member_of"), (.str (Str.ofString "member_of") 368), (.ref 140)⟩, ⟨PyData.keyHash P (Str.ofString "RangePartitionAssignor"), (.str (Str.ofString "RangePartitionAssignor") 453), (.ref 178)⟩].toArray 17), [].toArray⟩
noncomputable def ho12_11 (P : Params) : Obj := ⟨.none, none, (.fields [(.int 1 0), (.int 0 0), (.ref 20), (.int 5 0), (.int 0 0), (.ref 27), (.int 13 0), (.int 0 0), (.ref 50), (.int 22 0), (.int 0 0), (.ref 76), (.int 28 0), (.int 0 0), (.ref 97), (.int 38 0), (.int 0 0), (.ref 132), (.int 48 0), (.int 0 0), (.ref 139), (.int 51 0), (.int 0 0), (.ref 146)].toArray), [].toArray⟩
noncomputable def ho141 (P : Params) : Obj := ⟨(.type "tuple"), none, (.seq [].toArray 0), [].toArray⟩
noncomputable def ho142 (P : Params) : Obj := ⟨(.type "builtin_function_or_method"), none, (.fields [(.builtin "type.__prepare__"), (.type "type")].toArray), [].toArray⟩
noncomputable def ho143 (P : Params) : Obj := ⟨(.type "dict"), none, (.dict [⟨PyData.keyHash P (Str.ofString "__module__"), (.str (Str.ofString "__module__") 378), (.str (Str.ofString "kafka.coordinator.assignors.range") 369)⟩, ⟨PyData.keyHash P (Str.ofString "__qualname__"), (.str (Str.ofString "__qualname__") 380), (.str (Str.ofString "RangePartitionAssignor") 379)⟩, ⟨PyData.keyHash P (Str.ofString "__firstlineno__"), (.str (Str.ofString "__firstlineno__") 382), (.int 51 381)⟩, ⟨PyData.keyHash P (Str.ofString "name"), (.str (Str.ofString "name") 384), (.str (Str.ofString "range") 383)⟩, ⟨PyData.keyHash P (Str.ofString "version"), (.str (Str.ofString "version") 386), (.int 0 385)⟩, ⟨PyData.keyHash P (Str.ofString "assign"), (.str (Str.ofString "assign") 404), (.ref 154)⟩, ⟨PyData.keyHash P (Str.ofString "metadata"), (.str (Str.ofString "metadata") 424), (.ref 164)⟩, ⟨PyData.keyHash P (Str.ofString "on_assignment"), (.str (Str.ofString "on_assignment") 445), (.ref 174)⟩, ⟨PyData.keyHash P (Str.ofString "__static_attributes__"), (.str (Str.ofString "__static_attributes__") 446), (.ref 176)⟩].toArray 9), [].toArray⟩
noncomputable def ho144 (P : Params) : Obj := ⟨(.type "tuple"), none, (.seq [].toArray 0), [].toArray⟩
noncomputable def ho145 (P : Params) : Obj := ⟨.none, none, (.fields [(.int 56 0), (.int 4 0), (.ref 151), (.int 87 0), (.int 4 0), (.ref 161), (.int 91 0), (.int 4 0), (.ref 171)].toArray), [].toArray⟩
noncomputable def ho146 (P : Params) : Obj := ⟨(.type "code"), none, (.fields [(.str (Str.ofString "RangePartitionAssignor") 373), (.str (Str.ofString "RangePartitionAssignor") 374), (.str (Str.ofString "/claim/cut.py") 375), (.int 51 0), (.int 0 0), (.int 0 0), (.int 0 0), (.int 0 0), (.ref 144), (.bool false), (.int 181 0), (.ref 145), .none, .none, .none, .none, (.int 376 0), (.int 51 0), (.str (Str.ofString "/claim/cut.py") 377)].toArray), [].toArray⟩
noncomputable def ho147 (P : Params) : Obj := ⟨(.type "frame"), none, .plain, [(some (.ref 146)), (some (.ref 3)), (some (.ref 143)), none, (some (.str (Str.ofString "kafka.coordinator.assignors.range") 369)), none, (some (.ref 0))].toArray⟩
noncomputable def ho148 (P : Params) : Obj := ⟨(.type "tuple"), none, (.seq [].toArray 0), [].toArray⟩
noncomputable def ho149 (P : Params) : Obj := ⟨.none, none, (.fields [].toArray), [].toArray⟩
noncomputable def ho150 (P : Params) : Obj := ⟨.none, none, (.func { name := (Str.ofString "assign"), qualname := (Str.ofString "RangePartitionAssignor.assign"), params := ct_9_2P, body := .stmts ct_9_2B, scope := ct_9_2S, globals := 0, closure := [], defaults := .none, kwdefaults := .none, doc := .none, pyModule := .none, annotations := none, code := .none, closureTuple := .none, builtins := 0 }), [].toArray⟩
noncomputable def ho151 (P : Params) : Obj := ⟨(.type "code"), none, (.fields [(.str (Str.ofString "assign") 387), (.str (Str.ofString "RangePartitionAssignor.assign") 388), (.str (Str.ofString "/claim/cut.py") 389), (.int 55 0), (.int 3 0), (.int 0 0), (.int 0 0), (.int 3 0), (.ref 148), (.bool true), (.int 181 0), (.ref 149), .none, .none, .none, (.ref 150), (.int 390 0), (.int 55 0), (.str (Str.ofString "/claim/cut.py") 391)].toArray), [].toArray⟩
noncomputable def ho152 (P : Params) : Obj := ⟨(.type "function"), none, (.func { name := (Str.ofString "assign"), qualname := (Str.ofString "RangePartitionAssignor.assign"), params := ct_9_2P, body := .stmts ct_9_2B, scope := ct_9_2S, globals := 3, closure := [], defaults := .none, kwdefaults := .none, doc := .none, pyModule := (.str (Str.ofString "kafka.coordinator.assignors.range") 369), annotations := (some 155), code := (.ref 151), closureTuple := .none, builtins := 0 }), [].toArray⟩
noncomputable def ho153 (P : Params) : Obj := ⟨(.type "dict"), none, (.dict [⟨PyData.keyHash P (Str.ofString "__module__"), (.str (Str.ofString "__module__") 393), (.str (Str.ofString "kafka.coordinator.assignors.range") 369)⟩, ⟨PyData.keyHash P (Str.ofString "__name__"), (.str (Str.ofString "__name__") 396), (.str (Str.ofString "assign") 395)⟩, ⟨PyData.keyHash P (Str.ofString "__qualname__"), (.str (Str.ofString "__qualname__") 399), (.str (Str.ofString "RangePartitionAssignor.assign") 398)⟩, ⟨PyData.keyHash P (Str.ofString "__doc__"), (.str (Str.ofString "__doc__") 401), .none⟩, ⟨PyData.keyHash P (Str.ofString "__annotations__"), (.str (Str.ofString "__annotations__") 403), (.ref 155)⟩].toArray 5), [].toArray⟩
noncomputable def ho154 (P : Params) : Obj := ⟨(.type "classmethod"), (some 153), (.fields [(.ref 152), (.bool false)].toArray), [].toArray⟩
noncomputable def ho155 (P : Params) : Obj := ⟨(.type "dict"), none, (.dict [].toArray 0), [].toArray⟩
noncomputable def ho156 (P : Params) : Obj := ⟨(.type "tuple"), none, (.seq [].toArray 0), [].toArray⟩
noncomputable def ho157 (P : Params) : Obj := ⟨.none, none, (.fields [].toArray), [].toArray⟩
noncomputable def ho158 (P : Params) : Obj := ⟨(.type "tuple"), none, (.seq [(.str (Str.ofString "cls") 408), (.str (Str.ofString "topics") 409)].toArray 0), [].toArray⟩
noncomputable def ho159 (P : Params) : Obj := ⟨(.type "tuple"), none, (.seq [].toArray 0), [].toArray⟩
noncomputable def ho160 (P : Params) : Obj := ⟨.none, none, (.func { name := (Str.ofString "metadata"), qualname := (Str.ofString "RangePartitionAssignor.metadata"), params := ct_9_3P, body := .stmts ct_9_3B, scope := ct_9_3S, globals := 0, closure := [], defaults := .none, kwdefaults := .none, doc := .none, pyModule := .none, annotations := none, code := .none, closureTuple := .none, builtins := 0 }), [].toArray⟩
noncomputable def ho161 (P : Params) : Obj := ⟨(.type "code"), none, (.fields [(.str (Str.ofString "metadata") 405), (.str (Str.ofString "RangePartitionAssignor.metadata") 406), (.str (Str.ofString "/claim/cut.py") 407), (.int 86 0), (.int 2 0), (.int 0 0), (.int 0 0), (.int 3 0), (.ref 156), (.bool true), (.int 181 0), (.ref 157), .none, (.ref 158), (.ref 159), (.ref 160), (.int 410 0), (.int 86 0), (.str (Str.ofString "/claim/cut.py") 411)].toArray), [].toArray⟩
noncomputable def ho162 (P : Params) : Obj := ⟨(.type "function"), none, (.func { name := (Str.ofString "metadata"), qualname := (Str.ofString "RangePartitionAssignor.metadata"), params := ct_9_3P, body := .stmts ct_9_3B, scope := ct_9_3S, globals := 3, closure := [], defaults := .none, kwdefaults := .none, doc := .none, pyModule := (.str (Str.ofString "kafka.coordinator.assignors.range") 369), annotations := (some 165), code := (.ref 161), closureTuple := .none, builtins := 0 }), [].toArray⟩
noncomputable def ho163 (P : Params) : Obj := ⟨(.type "dict"), none, (.dict [⟨PyData.keyHash P (Str.ofString "__module__"), (.str (Str.ofString "__module__") 413), (.str (Str.ofString "kafka.coordinator.assignors.range") 369)⟩, ⟨PyData.keyHash P (Str.ofString "__name__"), (.str (Str.ofString "__name__") 416), (.str (Str.ofString "metadata") 415)⟩, ⟨PyData.keyHash P (Str.ofString "__qualname__"), (.str (Str.ofString "__qualname__") 419), (.str (Str.ofString "RangePartitionAssignor.metadata") 418)⟩, ⟨PyData.keyHash P (Str.ofString "__doc__"), (.str (Str.ofString "__doc__") 421), .none⟩, ⟨PyData.keyHash P (Str.ofString "__annotations__"), (.str (Str.ofString "__annotations__") 423), (.ref 165)⟩].toArray 5), [].toArray⟩
noncomputable def ho164 (P : Params) : Obj := ⟨(.type "classmethod"), (some 163), (.fields [(.ref 162), (.bool false)].toArray), [].toArray⟩
noncomputable def ho165 (P : Params) : Obj := ⟨(.type "dict"), none, (.dict [].toArray 0), [].toArray⟩
noncomputable def ho166 (P : Params) : Obj := ⟨(.type "tuple"), none, (.seq [].toArray 0), [].toArray⟩
noncomputable def ho167 (P : Params) : Obj := ⟨.none, none, (.fields [].toArray), [].toArray⟩
noncomputable def ho168 (P : Params) : Obj := ⟨(.type "tuple"), none, (.seq [(.str (Str.ofString "cls") 428), (.str (Str.ofString "assignment") 429), (.str (Str.ofString "generation") 430)].toArray 0), [].toArray⟩
noncomputable def ho169 (P : Params) : Obj := ⟨(.type "tuple"), none, (.seq [].toArray 0), [].toArray⟩
noncomputable def ho170 (P : Params) : Obj := ⟨.none, none, (.func { name := (Str.ofString "on_assignment"), qualname := (Str.ofString "RangePartitionAssignor.on_assignment"), params := ct_9_4P, body := .stmts ct_9_4B, scope := ct_9_4S, globals := 0, closure := [], defaults := .none, kwdefaults := .none, doc := .none, pyModule := .none, annotations := none, code := .none, closureTuple := .none, builtins := 0 }), [].toArray⟩
noncomputable def ho171 (P : Params) : Obj := ⟨(.type "code"), none, (.fields [(.str (Str.ofString "on_assignment") 425), (.str (Str.ofString "RangePartitionAssignor.on_assignment") 426), (.str (Str.ofString "/claim/cut.py") 427), (.int 90 0), (.int 3 0), (.int 0 0), (.int 0 0), (.int 3 0), (.ref 166), (.bool true), (.int 181 0), (.ref 167), .none, (.ref 168), (.ref 169), (.ref 170), (.int 431 0), (.int 90 0), (.str (Str.ofString "/claim/cut.py") 432)].toArray), [].toArray⟩
noncomputable def ho172 (P : Params) : Obj := ⟨(.type "function"), none, (.func { name := (Str.ofString "on_assignment"), qualname := (Str.ofString "RangePartitionAssignor.on_assignment"), params := ct_9_4P, body := .stmts ct_9_4B, scope := ct_9_4S, globals := 3, closure := [], defaults := .none, kwdefaults := .none, doc := .none, pyModule := (.str (Str.ofString "kafka.coordinator.assignors.range") 369), annotations := (some 175), code := (.ref 171), closureTuple := .none, builtins := 0 }), [].toArray⟩
noncomputable def ho173 (P : Params) : Obj := ⟨(.type "dict"), none, (.dict [⟨PyData.keyHash P (Str.ofString "__module__"), (.str (Str.ofString "__module__") 434), (.str (Str.ofString "kafka.coordinator.assignors.range") 369)⟩, ⟨PyData.keyHash P (Str.ofString "__name__"), (.str (Str.ofString "__name__") 437), (.str (Str.ofString "on_assignment") 436)⟩, ⟨PyData.keyHash P (Str.ofString "__qualname__"), (.str (Str.ofString "__qualname__") 440), (.str (Str.ofString "RangePartitionAssignor.on_assignment") 439)⟩, ⟨PyData.keyHash P (Str.ofString "__doc__"), (.str (Str.ofString "__doc__") 442), .none⟩, ⟨PyData.keyHash P (Str.ofString "__annotations__"), (.str (Str.ofString "__annotations__") 444), (.ref 175)⟩].toArray 5), [].toArray⟩
noncomputable def ho174 (P : Params) : Obj := ⟨(.type "classmethod"), (some 173), (.fields [(.ref 172), (.bool false)].toArray), [].toArray⟩
noncomputable def ho175 (P : Params) : Obj := ⟨(.type "dict"), none, (.dict [].toArray 0), [].toArray⟩
noncomputable def ho176 (P : Params) : Obj := ⟨(.type "tuple"), none, (.seq [].toArray 0), [].toArray⟩
noncomputable def ho177 (P : Params) : Obj := ⟨(.type "dict"), none, (.dict [⟨PyData.keyHash P (Str.ofString "__module__"), (.str (Str.ofString "__module__") 378), (.str (Str.ofString "kafka.coordinator.assignors.range") 369)⟩, ⟨PyData.keyHash P (Str.ofString "__firstlineno__"), (.str (Str.ofString "__firstlineno__") 382), (.int 51 381)⟩, ⟨PyData.keyHash P (Str.ofString "name"), (.str (Str.ofString "name") 384), (.str (Str.ofString "range") 383)⟩, ⟨PyData.keyHash P (Str.ofString "version"), (.str (Str.ofString "version") 386), (.int 0 385)⟩, ⟨PyData.keyHash P (Str.ofString "assign"), (.str (Str.ofString "assign") 404), (.ref 154)⟩, ⟨PyData.keyHash P (Str.ofString "metadata"), (.str (Str.ofString "metadata") 424), (.ref 164)⟩, ⟨PyData.keyHash P (Str.ofString "on_assignment"), (.str (Str.ofString "on_assignment") 445), (.ref 174)⟩, ⟨PyData.keyHash P (Str.ofString "__static_attributes__"), (.str (Str.ofString "__static_attributes__") 446), (.ref 176)⟩, ⟨PyData.keyHash P (Str.ofString "__dict__"), (.str (Str.ofString "__dict__") 448), (.ref 179)⟩, ⟨PyData.keyHash P (Str.ofString "__weakref__"), (.str (Str.ofString "__weakref__") 450), (.ref 180)⟩, ⟨PyData.keyHash P (Str.ofString "__doc__"), (.str (Str.ofString "__doc__") 451), .none⟩].toArray 4), [].toArray⟩
noncomputable def ho178 (P : Params) : Obj := ⟨(.type "type"), none, (.cls { name := (Str.ofString "RangePartitionAssignor"), bases := [(.type "object")], mro := [(.ref 178), (.type "object")], ns := 177, qualname := (Str.ofString "RangePartitionAssignor"), hasDict := true, slotNames := [], subclasses := [], abstract := false, collection := none, hasDel := false }), [none, none, (some (.str (Str.ofString "RangePartitionAssignor") 371)), (some (.str (Str.ofString "RangePartitionAssignor") 379)), (some (.builtin "object.__new__")), (some (.bool true))].toArray⟩
noncomputable def ho179 (P : Params) : Obj := ⟨(.type "getset_descriptor"), none, (.fields [(.str (Str.ofString "__dict__") 447), (.ref 178), (.builtin "function.__dict__"), (.builtin "function.__dict__#set")].toArray), [].toArray⟩
noncomputable def ho180 (P : Params) : Obj := ⟨(.type "getset_descriptor"), none, (.fields [(.str (Str.ofString "__weakref__") 449), (.ref 178), (.builtin "ExceptionGroup.__weakref__"), .none].toArray), [].toArray⟩
noncomputable def ho181 (P : Params) : Obj := ⟨(.type "super"), none, (.fields [(.ref 178), (.ref 178), (.ref 178)].toArray), [].toArray⟩
noncomputable def ho182 (P : Params) : Obj := ⟨(.type "builtin_function_or_method"), none, (.fields [(.builtin "object.__init_subclass__"), (.ref 178)].toArray), [].toArray⟩
noncomputable def ho3_15 (P : Params) : Obj := ⟨(.type "dict"), none, (.dict [⟨PyData.keyHash P (Str.ofString "__name__"), (.str (Str.ofString "__name__") 165), (.str (Str.ofString "law_je0013_01") 454)⟩, ⟨PyData.keyHash P (Str.ofString "__doc__"), (.str (Str.ofString "__doc__") 166), .none⟩, ⟨PyData.keyHash P (Str.ofString "__package__"), (.str (Str.ofString "__package__") 167), .none⟩, ⟨PyData.keyHash P (Str.ofString "__loader__"), (.str (Str.ofString "__loader__") 168), (.builtin "__main__.__loader__#\x6fpaque")⟩, ⟨PyData.keyHash P (Str.ofString "__spec__"), (.str (Str.ofString "__spec__") 169), .none⟩, ⟨PyData.keyHash P (Str.ofString "__annotations__"), (.str (Str.ofString "__annotations__") 170), (.ref 6)⟩, ⟨PyData.keyHash P (Str.ofString "__builtins__"), (.str (Str.ofString "__builtins__") 171), (.ref 4)⟩, ⟨PyData.keyHash P (Str.ofString "__file__"), (.str (Str.ofString "__file__") 173), (.str (Str.ofString "/claim/cut.py") 172)⟩, ⟨PyData.keyHash P (Str.ofString "__cached__"), (.str (Str.ofString "__cached__") 174), .none⟩, ⟨PyData.keyHash P (Str.ofString "_wall"), (.str (Str.ofString "_wall") 193), (.ref 21)⟩, ⟨PyData.keyHash P (Str.ofString "ConsumerProtocolSubscription"), (.str (Str.ofString "ConsumerProtocolSubscription") 234), (.ref 40)⟩, ⟨PyData.keyHash P (Str.ofString "ConsumerProtocolAssignment"), (.str (Str.ofString "ConsumerProtocolAssignment") 273), (.ref 66)⟩, ⟨PyData.keyHash P (Str.ofString "Member"), (.str (Str.ofString "Member") 306), (.ref 87)⟩, ⟨PyData.keyHash P (Str.ofString "Cluster"), (.str (Str.ofString "Cluster") 350), (.ref 122)⟩, ⟨PyData.keyHash P (Str.ofString "grouped_by_kind"), (.str (Str.ofString "grouped_by_kind") 361), (.ref 133)⟩, ⟨PyData.keyHash P (Str.ofString "member_of"), (.str (Str.ofString "member_of") 368), (.ref 140)⟩, ⟨PyData.keyHash P (Str.ofString "RangePartitionAssignor"), (.str (Str.ofString "RangePartitionAssignor") 453), (.ref 178)⟩, ⟨PyData.keyHash P (Str.ofString "_law_next"), (.str (Str.ofString "_law_next") 466), (.ref 189)⟩, ⟨PyData.keyHash P (Str.ofString "_law_mixed"), (.str (Str.ofString "_law_mixed") 476), (.ref 196)⟩, ⟨PyData.keyHash P (Str.ofString "law"), (.str (Str.ofString "law") 482), (.ref 201)⟩].toArray 20), [].toArray⟩
noncomputable def ho12_15 (P : Params) : Obj := ⟨.none, none, (.fields [(.int 1 0), (.int 0 0), (.ref 20), (.int 5 0), (.int 0 0), (.ref 27), (.int 13 0), (.int 0 0), (.ref 50), (.int 22 0), (.int 0 0), (.ref 76), (.int 28 0), (.int 0 0), (.ref 97), (.int 38 0), (.int 0 0), (.ref 132), (.int 48 0), (.int 0 0), (.ref 139), (.int 51 0), (.int 0 0), (.ref 146), (.int 94 0), (.int 0 0), (.ref 188), (.int 101 0), (.int 0 0), (.ref 195), (.int 107 0), (.int 0 0), (.ref 200)].toArray), [].toArray⟩
noncomputable def ho183 (P : Params) : Obj := ⟨(.type "tuple"), none, (.seq [].toArray 0), [].toArray⟩
noncomputable def ho184 (P : Params) : Obj := ⟨.none, none, (.fields [].toArray), [].toArray⟩
noncomputable def ho185 (P : Params) : Obj := ⟨(.type "tuple"), none, (.seq [(.str (Str.ofString "hand") 459), (.str (Str.ofString "many") 460), (.str (Str.ofString "script") 461), (.str (Str.ofString "k") 462), (.str (Str.ofString "n") 463)].toArray 0), [].toArray⟩
noncomputable def ho186 (P : Params) : Obj := ⟨(.type "tuple"), none, (.seq [].toArray 0), [].toArray⟩
noncomputable def ho187 (P : Params) : Obj := ⟨.none, none, (.func { name := (Str.ofString "_law_next"), qualname := (Str.ofString "_law_next"), params := st_11P, body := .stmts st_11B, scope := st_11S, globals := 0, closure := [], defaults := .none, kwdefaults := .none, doc := .none, pyModule := .none, annotations := none, code := .none, closureTuple := .none, builtins := 0 }), [].toArray⟩
noncomputable def ho188 (P : Params) : Obj := ⟨(.type "code"), none, (.fields [(.str (Str.ofString "_law_next") 456), (.str (Str.ofString "_law_next") 457), (.str (Str.ofString "/claim/cut.py") 458), (.int 94 0), (.int 2 0), (.int 0 0), (.int 0 0), (.int 3 0), (.ref 183), (.bool true), (.int 181 0), (.ref 184), .none, (.ref 185), (.ref 186), (.ref 187), (.int 464 0), (.int 94 0), (.str (Str.ofString "/claim/cut.py") 465)].toArray), [].toArray⟩
noncomputable def ho189 (P : Params) : Obj := ⟨(.type "function"), none, (.func { name := (Str.ofString "_law_next"), qualname := (Str.ofString "_law_next"), params := st_11P, body := .stmts st_11B, scope := st_11S, globals := 3, closure := [], defaults := .none, kwdefaults := .none, doc := .none, pyModule := (.str (Str.ofString "law_je0013_01") 454), annotations := none, code := (.ref 188), closureTuple := .none, builtins := 0 }), [].toArray⟩
noncomputable def ho190 (P : Params) : Obj := ⟨(.type "tuple"), none, (.seq [].toArray 0), [].toArray⟩
noncomputable def ho191 (P : Params) : Obj := ⟨.none, none, (.fields [].toArray), [].toArray⟩
noncomputable def ho192 (P : Params) : Obj := ⟨(.type "tuple"), none, (.seq [(.str (Str.ofString "hand") 470), (.str (Str.ofString "rows") 471), (.str (Str.ofString "rest") 472), (.str (Str.ofString "found") 473)].toArray 0), [].toArray⟩
noncomputable def ho193 (P : Params) : Obj := ⟨(.type "tuple"), none, (.seq [].toArray 0), [].toArray⟩
noncomputable def ho194 (P : Params) : Obj := ⟨.none, none, (.func { name := (Str.ofString "_law_mixed"), qualname := (Str.ofString "_law_mixed"), params := st_12P, body := .stmts st_12B, scope := st_12S, globals := 0, closure := [], defaults := .none, kwdefaults := .none, doc := .none, pyModule := .none, annotations := none, code := .none, closureTuple := .none, builtins := 0 }), [].toArray⟩
noncomputable def ho195 (P : Params) : Obj := ⟨(.type "code"), none, (.fields [(.str (Str.ofString "_law_mixed") 467), (.str (Str.ofString "_law_mixed") 468), (.str (Str.ofString "/claim/cut.py") 469), (.int 101 0), (.int 2 0), (.int 0 0), (.int 0 0), (.int 3 0), (.ref 190), (.bool true), (.int 181 0), (.ref 191), .none, (.ref 192), (.ref 193), (.ref 194), (.int 474 0), (.int 101 0), (.str (Str.ofString "/claim/cut.py") 475)].toArray), [].toArray⟩
noncomputable def ho196 (P : Params) : Obj := ⟨(.type "function"), none, (.func { name := (Str.ofString "_law_mixed"), qualname := (Str.ofString "_law_mixed"), params := st_12P, body := .stmts st_12B, scope := st_12S, globals := 3, closure := [], defaults := .none, kwdefaults := .none, doc := .none, pyModule := (.str (Str.ofString "law_je0013_01") 454), annotations := none, code := (.ref 195), closureTuple := .none, builtins := 0 }), [].toArray⟩
noncomputable def ho197 (P : Params) : Obj := ⟨(.type "tuple"), none, (.seq [].toArray 0), [].toArray⟩
noncomputable def ho198 (P : Params) : Obj := ⟨.none, none, (.fields [].toArray), [].toArray⟩
noncomputable def ho199 (P : Params) : Obj := ⟨.none, none, (.func { name := (Str.ofString "law"), qualname := (Str.ofString "law"), params := st_13P, body := .stmts st_13B, scope := st_13S, globals := 0, closure := [], defaults := .none, kwdefaults := .none, doc := .none, pyModule := .none, annotations := none, code := .none, closureTuple := .none, builtins := 0 }), [].toArray⟩
noncomputable def ho200 (P : Params) : Obj := ⟨(.type "code"), none, (.fields [(.str (Str.ofString "law") 477), (.str (Str.ofString "law") 478), (.str (Str.ofString "/claim/cut.py") 479), (.int 107 0), (.int 1 0), (.int 0 0), (.int 0 0), (.int 3 0), (.ref 197), (.bool true), (.int 181 0), (.ref 198), .none, .none, .none, (.ref 199), (.int 480 0), (.int 107 0), (.str (Str.ofString "/claim/cut.py") 481)].toArray), [].toArray⟩
noncomputable def ho201 (P : Params) : Obj := ⟨(.type "function"), none, (.func { name := (Str.ofString "law"), qualname := (Str.ofString "law"), params := st_13P, body := .stmts st_13B, scope := st_13S, globals := 3, closure := [], defaults := .none, kwdefaults := .none, doc := .none, pyModule := (.str (Str.ofString "law_je0013_01") 454), annotations := none, code := (.ref 200), closureTuple := .none, builtins := 0 }), [].toArray⟩
noncomputable def hp1 (P : Params) : Heap := ⟨⟨[boot_o_0 P, boot_o_1 P, boot_o_2 P, boot_o_3 P, boot_o_4 P, boot_o_5 P, boot_o_6 P, boot_o_7 P, boot_o_8 P, boot_o_9 P, boot_o_10 P, ho11 P, ho12_1 P, ho13 P, ho14 P]⟩, {}⟩
noncomputable def hp4 (P : Params) : Heap := ⟨⟨[boot_o_0 P, boot_o_1 P, boot_o_2 P, ho3_4 P, boot_o_4 P, boot_o_5 P, boot_o_6 P, boot_o_7 P, boot_o_8 P, boot_o_9 P, boot_o_10 P, ho11 P, ho12_4 P, ho13 P, ho14 P, ho15 P, ho16 P, ho17 P, ho18 P, ho19 P, ho20 P, ho21 P, ho22 P, ho23 P, ho24 P, ho25 P, ho26 P, ho27 P, ho28 P, ho29 P, ho30 P, ho31 P, ho32 P, ho33 P, ho34 P, ho35 P, ho36 P, ho37 P, ho38 P, ho39 P, ho40 P, ho41 P, ho42 P, ho43 P, ho44 P]⟩, {}⟩
noncomputable def hp5 (P : Params) : Heap := ⟨⟨[boot_o_0 P, boot_o_1 P, boot_o_2 P, ho3_5 P, boot_o_4 P, boot_o_5 P, boot_o_6 P, boot_o_7 P, boot_o_8 P, boot_o_9 P, boot_o_10 P, ho11 P, ho12_5 P, ho13 P, ho14 P, ho15 P, ho16 P, ho17 P, ho18 P, ho19 P, ho20 P, ho21 P, ho22 P, ho23 P, ho24 P, ho25 P, ho26 P, ho27 P, ho28 P, ho29 P, ho30 P, ho31 P, ho32 P, ho33 P, ho34 P, ho35 P, ho36 P, ho37 P, ho38 P, ho39 P, ho40 P, ho41 P, ho42 P, ho43 P, ho44 P, ho45 P, ho46 P, ho47 P, ho48 P, ho49 P, ho50 P, ho51 P, ho52 P, ho53 P, ho54 P, ho55 P, ho56 P, ho57 P, ho58 P, ho59 P, ho60 P, ho61 P, ho62 P, ho63 P, ho64 P, ho65 P, ho66 P, ho67 P, ho68 P, ho69 P, ho70 P]⟩, {}⟩
noncomputable def hp6 (P : Params) : Heap := ⟨⟨[boot_o_0 P, boot_o_1 P, boot_o_2 P, ho3_6 P, boot_o_4 P, boot_o_5 P, boot_o_6 P, boot_o_7 P, boot_o_8 P, boot_o_9 P, boot_o_10 P, ho11 P, ho12_6 P, ho13 P, ho14 P, ho15 P, ho16 P, ho17 P, ho18 P, ho19 P, ho20 P, ho21 P, ho22 P, ho23 P, ho24 P, ho25 P, ho26 P, ho27 P, ho28 P, ho29 P, ho30 P, ho31 P, ho32 P, ho33 P, ho34 P, ho35 P, ho36 P, ho37 P, ho38 P, ho39 P, ho40 P, ho41 P, ho42 P, ho43 P, ho44 P, ho45 P, ho46 P, ho47 P, ho48 P, ho49 P, ho50 P, ho51 P, ho52 P, ho53 P, ho54 P, ho55 P, ho56 P, ho57 P, ho58 P, ho59 P, ho60 P, ho61 P, ho62 P, ho63 P, ho64 P, ho65 P, ho66 P, ho67 P, ho68 P, ho69 P, ho70 P, ho71 P, ho72 P, ho73 P, ho74 P, ho75 P, ho76 P, ho77 P, ho78 P, ho79 P, ho80 P, ho81 P, ho82 P, ho83 P, ho84 P, ho85 P, ho86 P, ho87 P, ho88 P, ho89 P, ho90 P, ho91 P]⟩, {}⟩
noncomputable def hp7 (P : Params) : Heap := ⟨⟨[boot_o_0 P, boot_o_1 P, boot_o_2 P, ho3_7 P, boot_o_4 P, boot_o_5 P, boot_o_6 P, boot_o_7 P, boot_o_8 P, boot_o_9 P, boot_o_10 P, ho11 P, ho12_7 P, ho13 P, ho14 P, ho15 P, ho16 P, ho17 P, ho18 P, ho19 P, ho20 P, ho21 P, ho22 P, ho23 P, ho24 P, ho25 P, ho26 P, ho27 P, ho28 P, ho29 P, ho30 P, ho31 P, ho32 P, ho33 P, ho34 P, ho35 P, ho36 P, ho37 P, ho38 P, ho39 P, ho40 P, ho41 P, ho42 P, ho43 P, ho44 P, ho45 P, ho46 P, ho47 P, ho48 P, ho49 P, ho50 P, ho51 P, ho52 P, ho53 P, ho54 P, ho55 P, ho56 P, ho57 P, ho58 P, ho59 P, ho60 P, ho61 P, ho62 P, ho63 P, ho64 P, ho65 P, ho66 P, ho67 P, ho68 P, ho69 P, ho70 P, ho71 P, ho72 P, ho73 P, ho74 P, ho75 P, ho76 P, ho77 P, ho78 P, ho79 P, ho80 P, ho81 P, ho82 P, ho83 P, ho84 P, ho85 P, ho86 P, ho87 P, ho88 P, ho89 P, ho90 P, ho91 P, ho92 P, ho93 P, ho94 P, ho95 P, ho96 P, ho97 P, ho98 P, ho99 P, ho100 P, ho101 P, ho102 P, ho103 P, ho104 P, ho105 P, ho106 P, ho107 P, ho108 P, ho109 P, ho110 P, ho111 P, ho112 P, ho113 P, ho114 P, ho115 P, ho116 P, ho117 P, ho118 P, ho119 P, ho120 P, ho121 P, ho122 P, ho123 P, ho124 P, ho125 P, ho126 P]⟩, {}⟩
noncomputable def hp10 (P : Params) : Heap := ⟨⟨[boot_o_0 P, boot_o_1 P, boot_o_2 P, ho3_10 P, boot_o_4 P, boot_o_5 P, boot_o_6 P, boot_o_7 P, boot_o_8 P, boot_o_9 P, boot_o_10 P, ho11 P, ho12_10 P, ho13 P, ho14 P, ho15 P, ho16 P, ho17 P, ho18 P, ho19 P, ho20 P, ho21 P, ho22 P, ho23 P, ho24 P, ho25 P, ho26 P, ho27 P, ho28 P, ho29 P, ho30 P, ho31 P, ho32 P, ho33 P, ho34 P, ho35 P, ho36 P, ho37 P, ho38 P, ho39 P, ho40 P, ho41 P, ho42 P, ho43 P, ho44 P, ho45 P, ho46 P, ho47 P, ho48 P, ho49 P, ho50 P, ho51 P, ho52 P, ho53 P, ho54 P, ho55 P, ho56 P, ho57 P, ho58 P, ho59 P, ho60 P, ho61 P, ho62 P, ho63 P, ho64 P, ho65 P, ho66 P, ho67 P, ho68 P, ho69 P, ho70 P, ho71 P, ho72 P, ho73 P, ho74 P, ho75 P, ho76 P, ho77 P, ho78 P, ho79 P, ho80 P, ho81 P, ho82 P, ho83 P, ho84 P, ho85 P, ho86 P, ho87 P, ho88 P, ho89 P, ho90 P, ho91 P, ho92 P, ho93 P, ho94 P, ho95 P, ho96 P, ho97 P, ho98 P, ho99 P, ho100 P, ho101 P, ho102 P, ho103 P, ho104 P, ho105 P, ho106 P, ho107 P, ho108 P, ho109 P, ho110 P, ho111 P, ho112 P, ho113 P, ho114 P, ho115 P, ho116 P, ho117 P, ho118 P, ho119 P, ho120 P, ho121 P, ho122 P, ho123 P, ho124 P, ho125 P, ho126 P, ho127 P, ho128 P, ho129 P, ho130 P, ho131 P, ho132 P, ho133 P, ho134 P, ho135 P, ho136 P, ho137 P, ho138 P, ho139 P, ho140 P]⟩, {}⟩
noncomputable def hp11 (P : Params) : Heap := ⟨⟨[boot_o_0 P, boot_o_1 P, boot_o_2 P, ho3_11 P, boot_o_4 P, boot_o_5 P, boot_o_6 P, boot_o_7 P, boot_o_8 P, boot_o_9 P, boot_o_10 P, ho11 P, ho12_11 P, ho13 P, ho14 P, ho15 P, ho16 P, ho17 P, ho18 P, ho19 P, ho20 P, ho21 P, ho22 P, ho23 P, ho24 P, ho25 P, ho26 P, ho27 P, ho28 P, ho29 P, ho30 P, ho31 P, ho32 P, ho33 P, ho34 P, ho35 P, ho36 P, ho37 P, ho38 P, ho39 P, ho40 P, ho41 P, ho42 P, ho43 P, ho44 P, ho45 P, ho46 P, ho47 P, ho48 P, ho49 P, ho50 P, ho51 P, ho52 P, ho53 P, ho54 P, ho55 P, ho56 P, ho57 P, ho58 P, ho59 P, ho60 P, ho61 P, ho62 P, ho63 P, ho64 P, ho65 P, ho66 P, ho67 P, ho68 P, ho69 P, ho70 P, ho71 P, ho72 P, ho73 P, ho74 P, ho75 P, ho76 P, ho77 P, ho78 P, ho79 P, ho80 P, ho81 P, ho82 P, ho83 P, ho84 P, ho85 P, ho86 P, ho87 P, ho88 P, ho89 P, ho90 P, ho91 P, ho92 P, ho93 P, ho94 P, ho95 P, ho96 P, ho97 P, ho98 P, ho99 P, ho100 P, ho101 P, ho102 P, ho103 P, ho104 P, ho105 P, ho106 P, ho107 P, ho108 P, ho109 P, ho110 P, ho111 P, ho112 P, ho113 P, ho114 P, ho115 P, ho116 P, ho117 P, ho118 P, ho119 P, ho120 P, ho121 P, ho122 P, ho123 P, ho124 P, ho125 P, ho126 P, ho127 P, ho128 P, ho129 P, ho130 P, ho131 P, ho132 P, ho133 P, ho134 P, ho135 P, ho136 P, ho137 P, ho138 P, ho139 P, ho140 P, ho141 P, ho142 P, ho143 P, ho144 P, ho145 P, ho146 P, ho147 P, ho148 P, ho149 P, ho150 P, ho151 P, ho152 P, ho153 P, ho154 P, ho155 P, ho156 P, ho157 P, ho158 P, ho159 P, ho160 P, ho161 P, ho162 P, ho163 P, ho164 P, ho165 P, ho166 P, ho167 P, ho168 P, ho169 P, ho170 P, ho171 P, ho172 P, ho173 P, ho174 P, ho175 P, ho176 P, ho177 P, ho178 P, ho179 P, ho180 P, ho181 P, ho182 P]⟩, {}⟩
noncomputable def hp15 (P : Params) : Heap := ⟨⟨[boot_o_0 P, boot_o_1 P, boot_o_2 P, ho3_15 P, boot_o_4 P, boot_o_5 P, boot_o_6 P, boot_o_7 P, boot_o_8 P, boot_o_9 P, boot_o_10 P, ho11 P, ho12_15 P, ho13 P, ho14 P, ho15 P, ho16 P, ho17 P, ho18 P, ho19 P, ho20 P, ho21 P, ho22 P, ho23 P, ho24 P, ho25 P, ho26 P, ho27 P, ho28 P, ho29 P, ho30 P, ho31 P, ho32 P, ho33 P, ho34 P, ho35 P, ho36 P, ho37 P, ho38 P, ho39 P, ho40 P, ho41 P, ho42 P, ho43 P, ho44 P, ho45 P, ho46 P, ho47 P, ho48 P, ho49 P, ho50 P, ho51 P, ho52 P, ho53 P, ho54 P, ho55 P, ho56 P, ho57 P, ho58 P, ho59 P, ho60 P, ho61 P, ho62 P, ho63 P, ho64 P, ho65 P, ho66 P, ho67 P, ho68 P, ho69 P, ho70 P, ho71 P, ho72 P, ho73 P, ho74 P, ho75 P, ho76 P, ho77 P, ho78 P, ho79 P, ho80 P, ho81 P, ho82 P, ho83 P, ho84 P, ho85 P, ho86 P, ho87 P, ho88 P, ho89 P, ho90 P, ho91 P, ho92 P, ho93 P, ho94 P, ho95 P, ho96 P, ho97 P, ho98 P, ho99 P, ho100 P, ho101 P, ho102 P, ho103 P, ho104 P, ho105 P, ho106 P, ho107 P, ho108 P, ho109 P, ho110 P, ho111 P, ho112 P, ho113 P, ho114 P, ho115 P, ho116 P, ho117 P, ho118 P, ho119 P, ho120 P, ho121 P, ho122 P, ho123 P, ho124 P, ho125 P, ho126 P, ho127 P, ho128 P, ho129 P, ho130 P, ho131 P, ho132 P, ho133 P, ho134 P, ho135 P, ho136 P, ho137 P, ho138 P, ho139 P, ho140 P, ho141 P, ho142 P, ho143 P, ho144 P, ho145 P, ho146 P, ho147 P, ho148 P, ho149 P, ho150 P, ho151 P, ho152 P, ho153 P, ho154 P, ho155 P, ho156 P, ho157 P, ho158 P, ho159 P, ho160 P, ho161 P, ho162 P, ho163 P, ho164 P, ho165 P, ho166 P, ho167 P, ho168 P, ho169 P, ho170 P, ho171 P, ho172 P, ho173 P, ho174 P, ho175 P, ho176 P, ho177 P, ho178 P, ho179 P, ho180 P, ho181 P, ho182 P, ho183 P, ho184 P, ho185 P, ho186 P, ho187 P, ho188 P, ho189 P, ho190 P, ho191 P, ho192 P, ho193 P, ho194 P, ho195 P, ho196 P, ho197 P, ho198 P, ho199 P, ho200 P, ho201 P]⟩, {}⟩
noncomputable abbrev PR : Program := PySem.Challenge.rw_je0013_01.row.toRowW.prog
noncomputable def tEnv : Env := { scope := PR.main.scope, locals := mainNs, globals := mainNs, cells := [], code := .ref 13, frame := some 14 }
noncomputable abbrev tC : Code := .body (behindTheImports PR) tEnv
noncomputable def tl0 : List Stmt := ((behindTheImports PR).drop 0).take 3
noncomputable def tl1 : List Stmt := ((behindTheImports PR).drop 3).take 1
noncomputable def tl2 : List Stmt := ((behindTheImports PR).drop 4).take 1
noncomputable def tl3 : List Stmt := ((behindTheImports PR).drop 5).take 1
noncomputable def tl4 : List Stmt := ((behindTheImports PR).drop 6).take 3
noncomputable def tl5 : List Stmt := ((behindTheImports PR).drop 9).take 1
noncomputable def tl6 : List Stmt := ((behindTheImports PR).drop 10).take 4
theorem tl_eq : behindTheImports PR = tl0 ++ (tl1 ++ (tl2 ++ (tl3 ++ (tl4 ++ (tl5 ++ (tl6 ++ [])))))) := by kernel_rfl
theorem tp_open : ∀ w : World, (fencedOpening treeTable PR w 3948).map (fun s => (s.heap, s.gens, s.drawn, s.toks)) = some (boot_heap w.params, Array.mk [], boot_drawn, boot_toks) := boot_open (by kernel_rfl) rfl fun _ => rfl
theorem tp_size : ∀ w : World, ((boot_heap w.params).isNs mainGlobals && (Array.mk [] : Array GenState).size == 0, (boot_heap w.params).objs.size, (boot_heap w.params).nsMap mainGlobals "__annotations__") = (true, 11, some (.ref 6)) := by
  intro w
  kernel_rfl
theorem tp_pre : ∀ (w : World) (os : OsState), topGo treeTable PR w 11 (some (.ref 6)) 12 ⟨boot_heap w.params, Array.mk [], boot_drawn, boot_toks, os⟩ (topStub PR) = some (⟨hp1 w.params, #[], boot_drawn, 187, os⟩, ⟨denote treeTable tC, tC, ⟨0, 0, 0, 0⟩, [topFrame ⟨0, 0, 0, 0⟩]⟩) := by
  intro w os
  kernel_rfl
theorem tp_block : ∀ (w : World) (os : OsState), segRun treeTable PR w 11 (some (.ref 6)) 1 2 ⟨hp1 w.params, #[], boot_drawn, 187, os⟩ (blockOf (behindTheImports PR) tEnv tC ⟨0, 0, 0, 0⟩ [topFrame ⟨0, 0, 0, 0⟩]) = some (.next, ⟨hp1 w.params, #[], boot_drawn, 187, os⟩, tC, ⟨0, 0, 0, 0⟩) := by
  intro w os
  first | (rw [PySem.W.Fast.te14374325043358763698, PySem.W.Fast.te14364793385576792824]; kernel_rfl) | kernel_rfl
theorem tp_0 : ∀ (w : World) (os : OsState), segRun treeTable PR w 11 (some (.ref 6)) 1 279 ⟨hp1 w.params, #[], boot_drawn, 187, os⟩ (piecesOf tl0 tEnv tC ⟨0, 0, 0, 0⟩ [topFrame ⟨0, 0, 0, 0⟩]) = some (.next, ⟨hp4 w.params, #[], boot_drawn, 235, os⟩, tC, ⟨5, 0, 12, 42⟩) := by
  intro w os
  first | (rw [PySem.W.Fast.te14374325043358763698, PySem.W.Fast.te14364793385576792824]; kernel_rfl) | kernel_rfl
theorem tp_1 : ∀ (w : World) (os : OsState), segRun treeTable PR w 11 (some (.ref 6)) 1 256 ⟨hp4 w.params, #[], boot_drawn, 235, os⟩ (piecesOf tl1 tEnv tC ⟨5, 0, 12, 42⟩ [topFrame ⟨0, 0, 0, 0⟩]) = some (.next, ⟨hp5 w.params, #[], boot_drawn, 274, os⟩, tC, ⟨13, 0, 21, 113⟩) := by
  intro w os
  first | (rw [PySem.W.Fast.te14374325043358763698, PySem.W.Fast.te14364793385576792824]; kernel_rfl) | kernel_rfl
theorem tp_2 : ∀ (w : World) (os : OsState), segRun treeTable PR w 11 (some (.ref 6)) 1 228 ⟨hp5 w.params, #[], boot_drawn, 274, os⟩ (piecesOf tl2 tEnv tC ⟨13, 0, 21, 113⟩ [topFrame ⟨0, 0, 0, 0⟩]) = some (.next, ⟨hp6 w.params, #[], boot_drawn, 307, os⟩, tC, ⟨22, 0, 27, 32⟩) := by
  intro w os
  first | (rw [PySem.W.Fast.te14374325043358763698, PySem.W.Fast.te14364793385576792824]; kernel_rfl) | kernel_rfl
theorem tp_3 : ∀ (w : World) (os : OsState), segRun treeTable PR w 11 (some (.ref 6)) 1 287 ⟨hp6 w.params, #[], boot_drawn, 307, os⟩ (piecesOf tl3 tEnv tC ⟨22, 0, 27, 32⟩ [topFrame ⟨0, 0, 0, 0⟩]) = some (.next, ⟨hp7 w.params, #[], boot_drawn, 351, os⟩, tC, ⟨28, 0, 37, 42⟩) := by
  intro w os
  first | (rw [PySem.W.Fast.te14374325043358763698, PySem.W.Fast.te14364793385576792824]; kernel_rfl) | kernel_rfl
theorem tp_4 : ∀ (w : World) (os : OsState), segRun treeTable PR w 11 (some (.ref 6)) 1 73 ⟨hp7 w.params, #[], boot_drawn, 351, os⟩ (piecesOf tl4 tEnv tC ⟨28, 0, 37, 42⟩ [topFrame ⟨0, 0, 0, 0⟩]) = some (.next, ⟨hp10 w.params, #[], boot_drawn, 371, os⟩, tC, ⟨50, 0, 50, 8⟩) := by
  intro w os
  first | (rw [PySem.W.Fast.te14374325043358763698, PySem.W.Fast.te14364793385576792824]; kernel_rfl) | kernel_rfl
theorem tp_5 : ∀ (w : World) (os : OsState), segRun treeTable PR w 11 (some (.ref 6)) 1 700 ⟨hp10 w.params, #[], boot_drawn, 371, os⟩ (piecesOf tl5 tEnv tC ⟨50, 0, 50, 8⟩ [topFrame ⟨0, 0, 0, 0⟩]) = some (.next, ⟨hp11 w.params, #[], boot_drawn, 454, os⟩, tC, ⟨51, 0, 92, 16⟩) := by
  intro w os
  first | (rw [PySem.W.Fast.te14374325043358763698, PySem.W.Fast.te14364793385576792824]; kernel_rfl) | kernel_rfl
theorem tp_6 : ∀ (w : World) (os : OsState), segRun treeTable PR w 11 (some (.ref 6)) 1 102 ⟨hp11 w.params, #[], boot_drawn, 454, os⟩ (piecesOf tl6 tEnv tC ⟨51, 0, 92, 16⟩ [topFrame ⟨0, 0, 0, 0⟩]) = some (.next, ⟨hp15 w.params, #[], boot_drawn, 483, os⟩, tC, ⟨107, 0, 143, 15⟩) := by
  intro w os
  first | (rw [PySem.W.Fast.te14374325043358763698, PySem.W.Fast.te14364793385576792824]; kernel_rfl) | kernel_rfl
theorem tp_fin : ∀ (w : World) (os : OsState), topRun treeTable PR w 11 (some (.ref 6)) 3 ⟨hp15 w.params, #[], boot_drawn, 483, os⟩ ⟨doneF .next, tC, ⟨107, 0, 143, 15⟩, [topFrame ⟨0, 0, 0, 0⟩]⟩ = some ⟨hp15 w.params, #[], boot_drawn, 483, os⟩ := by
  intro w os
  first | (rw [PySem.W.Fast.te14082659384304107361, PySem.W.Fast.te14364793385576792824]; kernel_rfl) | kernel_rfl
theorem tp_run : ∀ (w : World) (os : OsState), topRun treeTable PR w 11 (some (.ref 6)) (12 + (2 + (279 + (256 + (228 + (287 + (73 + (700 + (102 + 3))))))))) ⟨boot_heap w.params, Array.mk [], boot_drawn, boot_toks, os⟩ (topStub PR) = some ⟨hp15 w.params, #[], boot_drawn, 483, os⟩ := by
  intro w os
  refine go_top (tp_pre w os) (piece_block (tp_block w os) ?_)
  rw [tl_eq]
  exact piece_app (tp_0 w os) (piece_app (tp_1 w os) (piece_app (tp_2 w os) (piece_app (tp_3 w os) (piece_app (tp_4 w os) (piece_app (tp_5 w os) (piece_app (tp_6 w os) (piece_nil (tp_fin w os))))))))
theorem ka_ok : ∀ P, KA = (KK P).map (·.1) := fun _ => by kernel_rfl
noncomputable abbrev KH : Hook := kHook KK KA ka_ok
theorem tp_looks : ∀ w : World, (fun (os : OsState) => ((staticsOk (importedModules PR.main.body) (boot_heap w.params) (hp15 w.params) && namesBound PR (hp15 w.params) && gensDone ⟨hp15 w.params, Array.mk [], boot_drawn, 483, os⟩ && laidKept (boot_heap w.params) (hp15 w.params)), openSeen VV [Str.ofString "ConsumerProtocolSubscription", Str.ofString "RangePartitionAssignor"] (importedModules PR.main.body) (fun s => xlAt VV [] s && recOk (RowW.records PySem.Challenge.rw_je0013_01.row.toRowW) s) true ⟨hp15 w.params, Array.mk [], boot_drawn, 483, os⟩, Hook.obs KH ⟨hp15 w.params, Array.mk [], boot_drawn, 483, os⟩)) = fun _ => (true, openGood VV [Str.ofString "ConsumerProtocolSubscription", Str.ofString "RangePartitionAssignor"], Hook.val KH w) := by
  intro w
  first | (rw [PySem.W.Fast.te4187177175401517315]; kernel_rfl) | kernel_rfl
theorem top_left : LeftO PySem.Challenge.rw_je0013_01.row.toRowW.prog VV [Str.ofString "ConsumerProtocolSubscription", Str.ofString "RangePartitionAssignor"] (fun s => xlAt VV [] s && recOk (RowW.records PySem.Challenge.rw_je0013_01.row.toRowW) s) (Hook.obs KH) (Hook.val KH) 3948 :=
  LeftO.of_pieces tp_open tp_size tp_run rfl tp_looks

end
section
set_option maxRecDepth 100000 in
set_option maxHeartbeats 8000000 in
theorem law_said : OpenLaw.wellSaid PySem.Challenge.rw_je0013_01 = true := by
  unfold OpenLaw.wellSaid
  simp only [Bool.and_eq_true]
  refine ⟨⟨⟨⟨⟨⟨⟨⟨⟨⟨⟨⟨⟨⟨⟨⟨⟨⟨?_, ?_⟩, ?_⟩, ?_⟩, ?_⟩, ?_⟩, ?_⟩, ?_⟩, ?_⟩, ?_⟩, ?_⟩, ?_⟩, ?_⟩, ?_⟩, ?_⟩, ?_⟩, ?_⟩, ?_⟩, ?_⟩
  · first | (rw [PySem.W.Fast.te17960256430627541270]; kernel_rfl) | decide +kernel
  all_goals (with_reducible decide +kernel)
local macro_rules | `(tactic| w_nolog (first | $_:tacticSeq | $_:tacticSeq)) => `(tactic| skip)
set_option maxRecDepth 100000 in
set_option maxHeartbeats 8000000 in
theorem hd_hold : PySem.Challenge.rw_je0013_01.Holds := by
  w_on
  refine holds_law law_said fun said => ?_
  refine holds_open (q := VV) (loose := [Str.ofString "ConsumerProtocolSubscription", Str.ofString "RangePartitionAssignor"]) (Xt := fun s => xlAt VV [] s && recOk (RowW.records PySem.Challenge.rw_je0013_01.row.toRowW) s) (XP := XL VV []) (Yf := Hook.obs KH) (Ya := Hook.val KH) (YP := Hook.says KH) (N := 3948) top_left (Hook.of KH) (Hook.keeps KH) (fun s e => xl_of s (Bool.and_eq_true_iff.mp e).1) XL.keeps (by rfl) (by rfl) (by rfl) (fun s e => recFacts_of (Bool.and_eq_true_iff.mp e).2) (by rfl) (by first | assumption | decide +kernel) (by decide +kernel) ⟨rfl, rfl, rfl, rfl, rfl, by decide +kernel⟩ ?hw ?hc
  case hw => exact ⟨[WData.list []], by decide +kernel, by decide +kernel⟩
  w_strict (k_go0; (try clear hcd); (rename Below _ _ _ _ => B); (rename Fr _ _ _ _ => F); (rename News _ _ _ _ => N); (rename Frag.In _ _ => X); (rename IntsAre _ _ => hI); (rename Heap.IsList _ _ _ => hL); (rename Top _ _ _ _ _ _ => T); (rename CellsAre _ _ _ => C); (rename World => w); (refine wpAny_noRaise ?_); (refine law_go X T ⟨_, _, _, _, _, _, _, _, _, callerA, _, rfl, B, rfl, by decide, by decide⟩ ⟨_, _, hL, hI, by omega⟩ F N C ?_ fun h' tk' m' F' => ?_); (· rfl); k_steps)

end
end Mine
theorem PySem.Challenge.cw_je0013_01_holds : PySem.Challenge.rw_je0013_01.Holds :=
  Mine.hd_hold
