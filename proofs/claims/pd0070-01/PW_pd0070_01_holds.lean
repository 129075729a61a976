import PyProof.Rows.All
import Wide.All
import OpenK.AllK
import Wide.FinOn
import PySem.Challenge.RW_pd0070_01
section
open PySem PySem.W PyProof.Rows
set_option Elab.async false
set_option maxRecDepth 100000
namespace Mine
/-- the text's statement at a place -/
noncomputable def stm (i : Nat) : Stmt := (PySem.Challenge.rw_pd0070_01.row.prog.main.body[i]?).getD (.Pass default)
/-- the object that a def's statement leaves -/
noncomputable def fnO (st : Stmt) (md : Value) (code : Addr) : Obj := match st with
  | .FunctionDef name params body _ _ _ scope _ _ _ => { cls := .type "function", data := .func { name := name, qualname := name, params := params, body := .stmts body, scope := scope, globals := 3, closure := [], defaults := .none, kwdefaults := .none, pyModule := md, code := .ref code } }
  | _ => { cls := .none, data := .plain }
/-- the text's defs and classes -/
noncomputable def viewP : Program := { PySem.Challenge.rw_pd0070_01.row.prog with main := { PySem.Challenge.rw_pd0070_01.row.prog.main with body := [stm 0, stm 2, stm 4, stm 6, stm 7, stm 9, stm 11, stm 13, stm 14, stm 15, stm 17, stm 19, stm 20, stm 21, stm 22, stm 23, stm 24, stm 25, stm 26, stm 27, stm 28] } }
/-- what the top leaves, as far as it is wanted: the text's own names, the defs that the law reaches, their code -/
noncomputable def kap : Params → Frag := fun P => [
  (nat_lit 3, { cls := Value.type "dict", data := Data.dict #[{ hash := PyData.keyHash P (Str.ofString "__name__"), key := Value.str (Str.ofString "__name__") 165, val := Value.str (Str.ofString "law_pd0070_01") 343 }, { hash := PyData.keyHash P (Str.ofString "__doc__"), key := Value.str (Str.ofString "__doc__") 166, val := Value.none }, { hash := PyData.keyHash P (Str.ofString "__package__"), key := Value.str (Str.ofString "__package__") 167, val := Value.none }, { hash := PyData.keyHash P (Str.ofString "__loader__"), key := Value.str (Str.ofString "__loader__") 168, val := Value.builtin "__main__.__loader__#opaque" }, { hash := PyData.keyHash P (Str.ofString "__spec__"), key := Value.str (Str.ofString "__spec__") 169, val := Value.none }, { hash := PyData.keyHash P (Str.ofString "__annotations__"), key := Value.str (Str.ofString "__annotations__") 170, val := Value.ref 6 }, { hash := PyData.keyHash P (Str.ofString "__builtins__"), key := Value.str (Str.ofString "__builtins__") 171, val := Value.ref 4 }, { hash := PyData.keyHash P (Str.ofString "__file__"), key := Value.str (Str.ofString "__file__") 173, val := Value.str (Str.ofString "/claim/cut.py") 172 }, { hash := PyData.keyHash P (Str.ofString "__cached__"), key := Value.str (Str.ofString "__cached__") 174, val := Value.none }, { hash := PyData.keyHash P (Str.ofString "_wall"), key := Value.str (Str.ofString "_wall") 193, val := Value.ref 21 }, { hash := PyData.keyHash P (Str.ofString "_plain_name"), key := Value.str (Str.ofString "_plain_name") 204, val := Value.ref 28 }, { hash := PyData.keyHash P (Str.ofString "ABCMeta"), key := Value.str (Str.ofString "ABCMeta") 230, val := Value.ref 45 }, { hash := PyData.keyHash P (Str.ofString "_ABCLike"), key := Value.str (Str.ofString "_ABCLike") 273, val := Value.ref 78 }, { hash := PyData.keyHash P (Str.ofString "_abc_plain_meta"), key := Value.str (Str.ofString "_abc_plain_meta") 280, val := Value.ref 87 }, { hash := PyData.keyHash P (Str.ofString "fspath"), key := Value.str (Str.ofString "fspath") 292, val := Value.ref 94 }, { hash := PyData.keyHash P (Str.ofString "_check_arg_types"), key := Value.str (Str.ofString "_check_arg_types") 305, val := Value.ref 101 }, { hash := PyData.keyHash P (Str.ofString "_get_sep"), key := Value.str (Str.ofString "_get_sep") 314, val := Value.ref 108 }, { hash := PyData.keyHash P (Str.ofString "dirname"), key := Value.str (Str.ofString "dirname") 324, val := Value.ref 115 }, { hash := PyData.keyHash P (Str.ofString "commonpath"), key := Value.str (Str.ofString "commonpath") 330, val := Value.ref 120 }, { hash := PyData.keyHash P (Str.ofString "Int2AP"), key := Value.str (Str.ofString "Int2AP") 342, val := Value.ref 127 }, { hash := PyData.keyHash P (Str.ofString "_law_place"), key := Value.str (Str.ofString "_law_place") 350, val := Value.ref 132 }, { hash := PyData.keyHash P (Str.ofString "_law_drawn"), key := Value.str (Str.ofString "_law_drawn") 356, val := Value.ref 137 }, { hash := PyData.keyHash P (Str.ofString "_law_count"), key := Value.str (Str.ofString "_law_count") 363, val := Value.ref 144 }, { hash := PyData.keyHash P (Str.ofString "_law_sizes"), key := Value.str (Str.ofString "_law_sizes") 374, val := Value.ref 151 }, { hash := PyData.keyHash P (Str.ofString "_law_wanted"), key := Value.str (Str.ofString "_law_wanted") 385, val := Value.ref 158 }, { hash := PyData.keyHash P (Str.ofString "_law_found"), key := Value.str (Str.ofString "_law_found") 403, val := Value.ref 165 }, { hash := PyData.keyHash P (Str.ofString "_law_meet"), key := Value.str (Str.ofString "_law_meet") 413, val := Value.ref 172 }, { hash := PyData.keyHash P (Str.ofString "_law_met"), key := Value.str (Str.ofString "_law_met") 424, val := Value.ref 179 }, { hash := PyData.keyHash P (Str.ofString "_law_members"), key := Value.str (Str.ofString "_law_members") 435, val := Value.ref 186 }, { hash := PyData.keyHash P (Str.ofString "law"), key := Value.str (Str.ofString "law") 441, val := Value.ref 191 }] 30 }),
  (nat_lit 93, { cls := Value.type "code", data := Data.fields #[Value.str (Str.ofString "fspath") 283, Value.str (Str.ofString "fspath") 284, Value.str (Str.ofString "/claim/cut.py") 285, Value.int 35 0, Value.int 1 0, Value.int 0 0, Value.int 0 0, Value.int 3 0, Value.ref 88, Value.bool true, Value.int 181 0, Value.ref 89, Value.none, Value.ref 90, Value.ref 91, Value.ref 92, Value.int 290 0, Value.int 35 0, Value.str (Str.ofString "/claim/cut.py") 291] }),
  (nat_lit 94, fnO (stm 9) (Value.str (Str.ofString "os") 281) 93),
  (nat_lit 107, { cls := Value.type "code", data := Data.fields #[Value.str (Str.ofString "_get_sep") 308, Value.str (Str.ofString "_get_sep") 309, Value.str (Str.ofString "/claim/cut.py") 310, Value.int 64 0, Value.int 1 0, Value.int 0 0, Value.int 0 0, Value.int 3 0, Value.ref 102, Value.bool true, Value.int 181 0, Value.ref 103, Value.none, Value.ref 104, Value.ref 105, Value.ref 106, Value.int 312 0, Value.int 64 0, Value.str (Str.ofString "/claim/cut.py") 313] }),
  (nat_lit 108, fnO (stm 13) (Value.str (Str.ofString "cpy313.posixpath") 306) 107),
  (nat_lit 114, { cls := Value.type "code", data := Data.fields #[Value.str (Str.ofString "dirname") 315, Value.str (Str.ofString "dirname") 316, Value.str (Str.ofString "/claim/cut.py") 317, Value.int 69 0, Value.int 1 0, Value.int 0 0, Value.int 0 0, Value.int 3 0, Value.ref 109, Value.bool true, Value.int 181 0, Value.ref 110, Value.none, Value.ref 111, Value.ref 112, Value.ref 113, Value.int 322 0, Value.int 69 0, Value.str (Str.ofString "/claim/cut.py") 323] }),
  (nat_lit 115, fnO (stm 14) (Value.str (Str.ofString "cpy313.posixpath") 306) 114),
  (nat_lit 119, { cls := Value.type "code", data := Data.fields #[Value.str (Str.ofString "commonpath") 325, Value.str (Str.ofString "commonpath") 326, Value.str (Str.ofString "/claim/cut.py") 327, Value.int 77 0, Value.int 1 0, Value.int 0 0, Value.int 0 0, Value.int 3 0, Value.ref 116, Value.bool true, Value.int 181 0, Value.ref 117, Value.none, Value.none, Value.none, Value.ref 118, Value.int 328 0, Value.int 77 0, Value.str (Str.ofString "/claim/cut.py") 329] }),
  (nat_lit 120, fnO (stm 15) (Value.str (Str.ofString "cpy313.posixpath") 306) 119),
  (nat_lit 126, { cls := Value.type "code", data := Data.fields #[Value.str (Str.ofString "Int2AP") 333, Value.str (Str.ofString "Int2AP") 334, Value.str (Str.ofString "/claim/cut.py") 335, Value.int 107 0, Value.int 1 0, Value.int 0 0, Value.int 0 0, Value.int 3 0, Value.ref 121, Value.bool true, Value.int 181 0, Value.ref 122, Value.none, Value.ref 123, Value.ref 124, Value.ref 125, Value.int 340 0, Value.int 107 0, Value.str (Str.ofString "/claim/cut.py") 341] }),
  (nat_lit 127, fnO (stm 17) (Value.str (Str.ofString "cpy313.imaplib") 331) 126),
  (nat_lit 131, { cls := Value.type "code", data := Data.fields #[Value.str (Str.ofString "_law_place") 345, Value.str (Str.ofString "_law_place") 346, Value.str (Str.ofString "/claim/cut.py") 347, Value.int 116 0, Value.int 1 0, Value.int 0 0, Value.int 0 0, Value.int 3 0, Value.ref 128, Value.bool true, Value.int 181 0, Value.ref 129, Value.none, Value.none, Value.none, Value.ref 130, Value.int 348 0, Value.int 116 0, Value.str (Str.ofString "/claim/cut.py") 349] }),
  (nat_lit 132, fnO (stm 19) (Value.str (Str.ofString "law_pd0070_01") 343) 131),
  (nat_lit 136, { cls := Value.type "code", data := Data.fields #[Value.str (Str.ofString "_law_drawn") 351, Value.str (Str.ofString "_law_drawn") 352, Value.str (Str.ofString "/claim/cut.py") 353, Value.int 121 0, Value.int 1 0, Value.int 0 0, Value.int 0 0, Value.int 3 0, Value.ref 133, Value.bool true, Value.int 181 0, Value.ref 134, Value.none, Value.none, Value.none, Value.ref 135, Value.int 354 0, Value.int 121 0, Value.str (Str.ofString "/claim/cut.py") 355] }),
  (nat_lit 137, fnO (stm 20) (Value.str (Str.ofString "law_pd0070_01") 343) 136),
  (nat_lit 143, { cls := Value.type "code", data := Data.fields #[Value.str (Str.ofString "_law_count") 357, Value.str (Str.ofString "_law_count") 358, Value.str (Str.ofString "/claim/cut.py") 359, Value.int 128 0, Value.int 1 0, Value.int 0 0, Value.int 0 0, Value.int 3 0, Value.ref 138, Value.bool true, Value.int 181 0, Value.ref 139, Value.none, Value.ref 140, Value.ref 141, Value.ref 142, Value.int 361 0, Value.int 128 0, Value.str (Str.ofString "/claim/cut.py") 362] }),
  (nat_lit 144, fnO (stm 21) (Value.str (Str.ofString "law_pd0070_01") 343) 143),
  (nat_lit 150, { cls := Value.type "code", data := Data.fields #[Value.str (Str.ofString "_law_sizes") 364, Value.str (Str.ofString "_law_sizes") 365, Value.str (Str.ofString "/claim/cut.py") 366, Value.int 130 0, Value.int 3 0, Value.int 0 0, Value.int 0 0, Value.int 3 0, Value.ref 145, Value.bool true, Value.int 181 0, Value.ref 146, Value.none, Value.ref 147, Value.ref 148, Value.ref 149, Value.int 372 0, Value.int 130 0, Value.str (Str.ofString "/claim/cut.py") 373] }),
  (nat_lit 151, fnO (stm 22) (Value.str (Str.ofString "law_pd0070_01") 343) 150),
  (nat_lit 157, { cls := Value.type "code", data := Data.fields #[Value.str (Str.ofString "_law_wanted") 375, Value.str (Str.ofString "_law_wanted") 376, Value.str (Str.ofString "/claim/cut.py") 377, Value.int 134 0, Value.int 2 0, Value.int 0 0, Value.int 0 0, Value.int 3 0, Value.ref 152, Value.bool true, Value.int 181 0, Value.ref 153, Value.none, Value.ref 154, Value.ref 155, Value.ref 156, Value.int 383 0, Value.int 134 0, Value.str (Str.ofString "/claim/cut.py") 384] }),
  (nat_lit 158, fnO (stm 23) (Value.str (Str.ofString "law_pd0070_01") 343) 157),
  (nat_lit 164, { cls := Value.type "code", data := Data.fields #[Value.str (Str.ofString "_law_found") 386, Value.str (Str.ofString "_law_found") 387, Value.str (Str.ofString "/claim/cut.py") 388, Value.int 141 0, Value.int 2 0, Value.int 0 0, Value.int 0 0, Value.int 3 0, Value.ref 159, Value.bool true, Value.int 181 0, Value.ref 160, Value.none, Value.ref 161, Value.ref 162, Value.ref 163, Value.int 401 0, Value.int 141 0, Value.str (Str.ofString "/claim/cut.py") 402] }),
  (nat_lit 165, fnO (stm 24) (Value.str (Str.ofString "law_pd0070_01") 343) 164),
  (nat_lit 171, { cls := Value.type "code", data := Data.fields #[Value.str (Str.ofString "_law_meet") 404, Value.str (Str.ofString "_law_meet") 405, Value.str (Str.ofString "/claim/cut.py") 406, Value.int 160 0, Value.int 2 0, Value.int 0 0, Value.int 0 0, Value.int 3 0, Value.ref 166, Value.bool true, Value.int 181 0, Value.ref 167, Value.none, Value.ref 168, Value.ref 169, Value.ref 170, Value.int 411 0, Value.int 160 0, Value.str (Str.ofString "/claim/cut.py") 412] }),
  (nat_lit 172, fnO (stm 25) (Value.str (Str.ofString "law_pd0070_01") 343) 171),
  (nat_lit 178, { cls := Value.type "code", data := Data.fields #[Value.str (Str.ofString "_law_met") 414, Value.str (Str.ofString "_law_met") 415, Value.str (Str.ofString "/claim/cut.py") 416, Value.int 169 0, Value.int 2 0, Value.int 0 0, Value.int 0 0, Value.int 3 0, Value.ref 173, Value.bool true, Value.int 181 0, Value.ref 174, Value.none, Value.ref 175, Value.ref 176, Value.ref 177, Value.int 422 0, Value.int 169 0, Value.str (Str.ofString "/claim/cut.py") 423] }),
  (nat_lit 179, fnO (stm 26) (Value.str (Str.ofString "law_pd0070_01") 343) 178),
  (nat_lit 185, { cls := Value.type "code", data := Data.fields #[Value.str (Str.ofString "_law_members") 425, Value.str (Str.ofString "_law_members") 426, Value.str (Str.ofString "/claim/cut.py") 427, Value.int 179 0, Value.int 4 0, Value.int 0 0, Value.int 0 0, Value.int 3 0, Value.ref 180, Value.bool true, Value.int 181 0, Value.ref 181, Value.none, Value.ref 182, Value.ref 183, Value.ref 184, Value.int 433 0, Value.int 179 0, Value.str (Str.ofString "/claim/cut.py") 434] }),
  (nat_lit 186, fnO (stm 27) (Value.str (Str.ofString "law_pd0070_01") 343) 185),
  (nat_lit 190, { cls := Value.type "code", data := Data.fields #[Value.str (Str.ofString "law") 436, Value.str (Str.ofString "law") 437, Value.str (Str.ofString "/claim/cut.py") 438, Value.int 184 0, Value.int 1 0, Value.int 0 0, Value.int 0 0, Value.int 3 0, Value.ref 187, Value.bool true, Value.int 181 0, Value.ref 188, Value.none, Value.none, Value.none, Value.ref 189, Value.int 439 0, Value.int 184 0, Value.str (Str.ofString "/claim/cut.py") 440] }),
  (nat_lit 191, fnO (stm 28) (Value.str (Str.ofString "law_pd0070_01") 343) 190)]
end Mine
end
section
set_option pp.deepTerms false
set_option pp.deepTerms.threshold 5
open PySem PySem.W PyProof.Rows
set_option Elab.async false
set_option maxRecDepth 100000
namespace Mine

/-- a call's site: the frames below, the caller's frame, the written part, the ledger, the top's facts, the room -/
structure Site (w : World) (mean : ExcName → Option Value) (mg mb : Str → Option Value) (k dp un : Nat) (cs : Scope) (A₀ : Around) (base : Heap) (outer : List Env) (h₀ : Heap) (L : Addr) (m : Str → Option Value) (news : List (Addr × Obj)) (h : Heap) : Prop where
  B : Below A₀ base outer h₀
  F : Fr h₀ L h m
  X : (kap w.params).In h₀
  N : News h₀ L h news
  T : Top viewP (looseW viewP []) mean mg mb h₀
  hk : cs.kind = .function
  hd : dp + k < recursionLimit
  hu : un + 20 * k < cLine

def hx : Nat → List Nat
  | 0 => []
  | n + 1 => hx ((n + 1) / 16) ++ [(n + 1) % 16]
termination_by n => n
decreasing_by omega
theorem hx_pos {n : Nat} (h : n ≠ 0) : hx n = hx (n / 16) ++ [n % 16] := by
  cases n with
  | zero => exact absurd rfl h
  | succ n => rw [hx]
theorem hx_len : ∀ (k n : Nat), n < 16 ^ k → (hx n).length ≤ k
  | 0, n, h => by
    have : n = 0 := by simpa using h
    subst this; simp [hx]
  | k + 1, n, h => by
    by_cases h0 : n = 0
    · subst h0; simp [hx]
    · rw [hx_pos h0, List.length_append, List.length_singleton]
      have := hx_len k (n / 16) (by rw [Nat.pow_succ] at h; omega)
      omega
def ltr (d : Nat) : UInt8 := (65 + d).toUInt8
/-- the path of some figures: a slash and a letter for each; the slash alone for none -/
def pathL : List Nat → List UInt8
  | [] => [47]
  | d :: ds => (d :: ds).flatMap fun d => [47, ltr d]
end Mine
end
section
open PySem PySem.W PySem.Calls PyProof.Rows
set_option Elab.async false
set_option maxRecDepth 100000
namespace Mine
namespace BM
open Builtin
theorem slot_join : Slot "bytes" "join" "bytes.join" :=
  .of (owner := "bytes") (n := "join") (by rw [typeLookup_type, builtinLookup_eq_fast]; kernel_rfl) (by decide +kernel) (by decide +kernel) (by decide +kernel)
    (by first | exact .inl (by decide +kernel) | exact .inr (by decide +kernel)) (by rw [isSubtype_type]; kernel_rfl)
theorem type_join : typeOf (.builtin "bytes.join") = pure (.type "method_descriptor") := by show builtinType _ = _; rw [builtinType_eq_fast]; kernel_rfl
theorem entry_join : entryFor table "bytes.join" = some Builtin.«bytes.join» := entryFor_of_tree (by kernel_rfl)
theorem args_join (a b : Value) : argsOk "bytes.join" ⟨[a, b], []⟩ := by
  unfold argsOk; rw [signature?_of (id := "bytes.join") (n := ['n', 'i', 'o', 'j']) (o := ['s', 'e', 't', 'y', 'b']) (by kernel_rfl) FB.owner_bytes]; kernel_rfl
theorem slot_split : Slot "bytes" "split" "bytes.split" :=
  .of (owner := "bytes") (n := "split") (by rw [typeLookup_type, builtinLookup_eq_fast]; kernel_rfl) (by decide +kernel) (by decide +kernel) (by decide +kernel)
    (by first | exact .inl (by decide +kernel) | exact .inr (by decide +kernel)) (by rw [isSubtype_type]; kernel_rfl)
theorem type_split : typeOf (.builtin "bytes.split") = pure (.type "method_descriptor") := by show builtinType _ = _; rw [builtinType_eq_fast]; kernel_rfl
theorem entry_split : entryFor table "bytes.split" = some Builtin.«bytes.split» := entryFor_of_tree (by kernel_rfl)
theorem args_split (a b : Value) : argsOk "bytes.split" ⟨[a, b], []⟩ := by
  unfold argsOk; rw [signature?_of (id := "bytes.split") (n := ['t', 'i', 'l', 'p', 's']) (o := ['s', 'e', 't', 'y', 'b']) (by kernel_rfl) FB.owner_bytes]; kernel_rfl
theorem slot_rfind : Slot "bytes" "rfind" "bytes.rfind" :=
  .of (owner := "bytes") (n := "rfind") (by rw [typeLookup_type, builtinLookup_eq_fast]; kernel_rfl) (by decide +kernel) (by decide +kernel) (by decide +kernel)
    (by first | exact .inl (by decide +kernel) | exact .inr (by decide +kernel)) (by rw [isSubtype_type]; kernel_rfl)
theorem type_rfind : typeOf (.builtin "bytes.rfind") = pure (.type "method_descriptor") := by show builtinType _ = _; rw [builtinType_eq_fast]; kernel_rfl
theorem entry_rfind : entryFor table "bytes.rfind" = some Builtin.«bytes.rfind» := entryFor_of_tree (by kernel_rfl)
theorem args_rfind (a b : Value) : argsOk "bytes.rfind" ⟨[a, b], []⟩ := by
  unfold argsOk; rw [signature?_of (id := "bytes.rfind") (n := ['d', 'n', 'i', 'f', 'r']) (o := ['s', 'e', 't', 'y', 'b']) (by kernel_rfl) FB.owner_bytes]; kernel_rfl
theorem slot_rstrip : Slot "bytes" "rstrip" "bytes.rstrip" :=
  .of (owner := "bytes") (n := "rstrip") (by rw [typeLookup_type, builtinLookup_eq_fast]; kernel_rfl) (by decide +kernel) (by decide +kernel) (by decide +kernel)
    (by first | exact .inl (by decide +kernel) | exact .inr (by decide +kernel)) (by rw [isSubtype_type]; kernel_rfl)
theorem type_rstrip : typeOf (.builtin "bytes.rstrip") = pure (.type "method_descriptor") := by show builtinType _ = _; rw [builtinType_eq_fast]; kernel_rfl
theorem entry_rstrip : entryFor table "bytes.rstrip" = some Builtin.«bytes.rstrip» := entryFor_of_tree (by kernel_rfl)
theorem args_rstrip (a b : Value) : argsOk "bytes.rstrip" ⟨[a, b], []⟩ := by
  unfold argsOk; rw [signature?_of (id := "bytes.rstrip") (n := ['p', 'i', 'r', 't', 's', 'r']) (o := ['s', 'e', 't', 'y', 'b']) (by kernel_rfl) FB.owner_bytes]; kernel_rfl
theorem slot_count : Slot "bytes" "count" "bytes.count" :=
  .of (owner := "bytes") (n := "count") (by rw [typeLookup_type, builtinLookup_eq_fast]; kernel_rfl) (by decide +kernel) (by decide +kernel) (by decide +kernel)
    (by first | exact .inl (by decide +kernel) | exact .inr (by decide +kernel)) (by rw [isSubtype_type]; kernel_rfl)
theorem type_count : typeOf (.builtin "bytes.count") = pure (.type "method_descriptor") := by show builtinType _ = _; rw [builtinType_eq_fast]; kernel_rfl
theorem entry_count : entryFor table "bytes.count" = some Builtin.«bytes.count» := entryFor_of_tree (by kernel_rfl)
theorem args_count (a b : Value) : argsOk "bytes.count" ⟨[a, b], []⟩ := by
  unfold argsOk; rw [signature?_of (id := "bytes.count") (n := ['t', 'n', 'u', 'o', 'c']) (o := ['s', 'e', 't', 'y', 'b']) (by kernel_rfl) FB.owner_bytes]; kernel_rfl

end BM
end Mine
end
section
open PySem PySem.W PySem.Calls PyProof.Rows
set_option Elab.async false
set_option maxRecDepth 100000
namespace Mine
namespace BM
open Builtin
section
variable {b c : Array UInt8} {t u : Tok}
theorem cl_eq (n : Nat) : (if (n : Int) < 0 then Max.max 0 ((n : Int) + (n : Int)) else (n : Int)) = n := if_neg (by omega)
def sw (b c : Array UInt8) : Option (Nat × Nat) := if ((b.size : Int) - 0 < (c.size : Int)) then none else some (0, b.size)
def rfindI (b c : Array UInt8) : Int := match (sw b c).bind fun (lo, hi) => Bytes.rfind? b c lo hi with | some i => (i : Int) | none => -1
def countI (b c : Array UInt8) : Int := match sw b c with | none => 0 | some (lo, hi) => ((Bytes.occurrences b c lo hi).length : Nat)
theorem meets_rfind : Meets («bytes.rfind» ⟨[.bytes b t, .bytes c u], []⟩) (fun _ R s => ∀ t' k, R (.ok (.ret (.int (rfindI b c) t'))) { s with toks := k }) := by
  refine .of_wp fun prog w A R s h => ?_
  show wpAny _ _ (Bytes.searchArgs .bytes "rfind" _ >>= fun r => _) _ _ s
  refine wpAny_bind ?_
  show wpAny _ _ (Bytes.buffer? _ (.bytes c u) >>= fun r => _) _ _ s
  refine wpAny_bind (wpAny_of_eq KBy.buffer_eq ?_)
  refine wpAny_bind (wpAny_pure ?_)
  refine wpAny_bind (wpAny_of_eq (a := b) rfl ?_)
  refine wpAny_pure ?_
  simp only [Option.getD_none, cl_eq, Int.min_self, Int.lt_irrefl, if_false, Int.toNat_natCast, Int.toNat_zero, if_true]
  show wpAny _ _ (match (sw b c).bind fun x => Bytes.rfind? b c x.1 x.2 with | some i => _ | none => _) _ _ s
  unfold rfindI at h
  cases hq : (sw b c).bind fun x => Bytes.rfind? b c x.1 x.2 with
  | some i =>
    have h' : ∀ t' k, R (.ok (.ret (.int (i : Int) t'))) { s with toks := k } := by
      intro t' k
      have := h t' k
      rw [show ((sw b c).bind fun (lo, hi) => Bytes.rfind? b c lo hi) = some i from hq] at this
      exact this
    exact wpAny_bind (wpAny_mkInt (wpAny_pure ⟨_, rfl, h' _ _⟩))
  | none =>
    have h' : ∀ t' k, R (.ok (.ret (.int (-1) t'))) { s with toks := k } := by
      intro t' k
      have := h t' k
      rw [show ((sw b c).bind fun (lo, hi) => Bytes.rfind? b c lo hi) = none from hq] at this
      exact this
    refine wpAny_bind (wpAny_rule ?_)
    exact wpAny_bind (wpAny_mkInt (wpAny_pure ⟨_, rfl, h' _ _⟩))
theorem meets_count (hc : c.isEmpty = false) : Meets («bytes.count» ⟨[.bytes b t, .bytes c u], []⟩) (fun _ R s => ∀ t' k, R (.ok (.ret (.int (countI b c) t'))) { s with toks := k }) := by
  refine .of_wp fun prog w A R s h => ?_
  show wpAny _ _ (Bytes.searchArgs .bytes "count" _ >>= fun r => _) _ _ s
  refine wpAny_bind ?_
  show wpAny _ _ (Bytes.buffer? _ (.bytes c u) >>= fun r => _) _ _ s
  refine wpAny_bind (wpAny_of_eq KBy.buffer_eq ?_)
  refine wpAny_bind (wpAny_pure ?_)
  refine wpAny_bind (wpAny_of_eq (a := b) rfl ?_)
  refine wpAny_pure ?_
  simp only [Option.getD_none, cl_eq, Int.min_self, Int.lt_irrefl, if_false, Int.toNat_natCast, Int.toNat_zero]
  show wpAny _ _ (match sw b c with | none => _ | some (lo, hi) => _) _ _ s
  unfold countI at h
  cases hq : sw b c with
  | none =>
    rw [hq] at h
    exact wpAny_bind (wpAny_mkInt (wpAny_pure ⟨_, rfl, h _ _⟩))
  | some x =>
    rw [hq] at h
    show wpAny _ _ (if c.isEmpty = true then _ else _) _ _ s
    rw [if_neg (by rw [hc]; exact Bool.false_ne_true)]
    exact wpAny_bind (wpAny_mkInt (wpAny_pure ⟨_, rfl, h _ _⟩))
theorem not_tuple : isInstance (.bytes b t) (.type "tuple") = pure false := by
  have e : isInstance (.bytes b t) (.type "tuple") = isSubtype (.type "bytes") (.type "tuple") := rfl
  rw [e, isSubtype_type]; kernel_rfl
def startsI (b c : Array UInt8) : Bool := if ((b.size : Int) - 0 < (c.size : Int)) then false else b.extract 0 (0 + c.size) == c
theorem meets_starts : Meets («bytes.startswith» ⟨[.bytes b t, .bytes c u], []⟩) (fun _ R s => R (.ok (.ret (.bool (startsI b c)))) s) := by
  refine .of_wp fun prog w A R s h => ?_
  show wpAny _ _ (isInstance (.bytes c u) (.type "tuple") >>= fun r => _) _ _ s
  refine wpAny_bind (wpAny_of_eq not_tuple ?_)
  show wpAny _ _ (Bytes.buffer? _ (.bytes c u) >>= fun r => _) _ _ s
  refine wpAny_bind (wpAny_of_eq KBy.buffer_eq ?_)
  refine wpAny_pure ⟨_, rfl, ?_⟩
  simp only [Option.getD_none, cl_eq, Int.min_self, Int.lt_irrefl, if_false, Int.toNat_zero, Bool.false_eq_true]
  exact h
def rstripL (b c : Array UInt8) : List UInt8 := (b.toList.reverse.dropWhile c.contains).reverse
theorem rstripL_len : (rstripL b c).length ≤ b.size := by
  unfold rstripL
  rw [List.length_reverse]
  have := (List.dropWhile_suffix (l := b.toList.reverse) c.contains).length_le
  simpa using this
theorem rstripL_eq (h : (rstripL b c).length = b.size) : (rstripL b c).toArray = b := by
  have e : rstripL b c = b.toList := by
    unfold rstripL at h ⊢
    have hs := List.dropWhile_suffix (l := b.toList.reverse) c.contains
    rw [hs.eq_of_length (by rw [List.length_reverse] at h; simpa using h), List.reverse_reverse]
  rw [e]
theorem meets_rstrip : Meets («bytes.rstrip» ⟨[.bytes b t, .bytes c u], []⟩) (fun _ R s => b.size ≤ sizeLine ∧ ∀ t' k, R (.ok (.ret (.bytes (rstripL b c).toArray t'))) { s with toks := k }) := by
  refine .of_wp fun prog w A R s hS => ?_
  obtain ⟨hsz, h⟩ := hS
  show wpAny _ _ (Bytes.bytesLike _ (.bytes c u) >>= fun r => _) _ _ s
  refine wpAny_bind (wpAny_of_eq KBd.like_eq ?_)
  refine wpAny_bind (wpAny_pure ?_)
  refine wpAny_bind (wpAny_of_eq (a := b) rfl ?_)
  show wpAny _ _ (if ((rstripL b c).length == b.size) = true then _ else _) _ _ s
  by_cases hq : ((rstripL b c).length == b.size) = true
  · rw [if_pos hq]
    have hq' := beq_iff_eq.mp hq
    rw [rstripL_eq hq'] at h
    refine wpAny_bind (wpAny_rule ?_)
    refine wpAny_bind ?_
    refine wpAny_bind (wpAny_typeOf (typeIs_bytes s b t) ?_)
    exact wpAny_pure (wpAny_pure ⟨_, rfl, h _ _⟩)
  · rw [if_neg hq]
    exact wpAny_bind (wpAny_mkBytes (wpAny_pure ⟨_, rfl, h _ _⟩) (by rw [List.size_toArray]; exact Nat.le_trans rstripL_len hsz))
inductive BAre : List Value → List (List UInt8) → Prop where
  | nil : BAre [] []
  | cons {t : Tok} {b : List UInt8} {vs : List Value} {bs : List (List UInt8)} : BAre vs bs → BAre (.bytes b.toArray t :: vs) (b :: bs)
theorem BAre.length : ∀ {vs : List Value} {bs : List (List UInt8)}, BAre vs bs → vs.length = bs.length
  | _, _, .nil => rfl
  | _, _, .cons h => by rw [List.length_cons, List.length_cons, h.length]
theorem BAre.get : ∀ {vs : List Value} {bs : List (List UInt8)}, BAre vs bs → ∀ (i : Nat) (b : List UInt8), bs[i]? = some b → ∃ t, vs[i]? = some (.bytes b.toArray t)
  | _, _, .cons (t := t) h, 0, b, e => by
    simp at e; subst e; exact ⟨t, by simp⟩
  | _, _, .cons h, i + 1, b, e => by
    simp at e
    obtain ⟨t, ht⟩ := h.get i b e
    exact ⟨t, by simpa using ht⟩
theorem BAre.snoc {t : Tok} {b : List UInt8} : ∀ {vs : List Value} {bs : List (List UInt8)}, BAre vs bs → BAre (vs ++ [.bytes b.toArray t]) (bs ++ [b])
  | _, _, .nil => .cons .nil
  | _, _, .cons h => .cons h.snoc
theorem mapM_new {M : Model} {A : Around} {E : Value → Shared → Prop} : ∀ (ps : List (Array UInt8)) (s : Shared) (Q : List Value → Shared → Prop), (∀ p ∈ ps, p.size ≤ sizeLine) → (∀ vs k, BAre vs (ps.map Array.toList) → Q vs { s with toks := k }) →
    wpAny M A (ps.mapM (Bytes.Kind.new .bytes)) Q E s
  | [], s, Q, _, h => by
    rw [List.mapM_nil]
    exact wpAny_pure (h [] s.toks .nil)
  | p :: ps, s, Q, hz, h => by
    rw [List.mapM_cons]
    refine wpAny_bind (wpAny_mkBytes ?_ (hz p (.head _)))
    refine wpAny_bind (mapM_new ps _ _ (fun q hq => hz q (.tail _ hq)) fun vs k hv => wpAny_pure ?_)
    exact h _ k (by
      have := BAre.cons (t := s.toks) (b := p.toList) hv
      simpa using this)
def splitL (b c : Array UInt8) : List (Array UInt8) := Bytes.between b c.size ((Bytes.occurrences b c 0 b.size).take (b.size + 1))
theorem opt_eq {v : Value} {id name : String} : Bytes.bindOptional id name ["sep", "maxsplit"] [v] [] = pure [some v, none] := rfl
theorem meets_split (hc : c.isEmpty = false) (hp : ((Bytes.occurrences b c 0 b.size).take (b.size + 1)).isEmpty = false) (hz : ∀ p ∈ splitL b c, p.size ≤ sizeLine) (hn : (splitL b c).length ≤ sizeLine) :
    Meets («bytes.split» ⟨[.bytes b t, .bytes c u], []⟩) (fun _ R s => ∀ vs k, BAre vs ((splitL b c).map Array.toList) → R (.ok (.ret (.ref s.heap.objs.size))) { s with heap := s.heap.push { cls := .type "list", data := .seq vs.toArray }, toks := k }) := by
  refine .of_wp fun prog w A R s h => ?_
  show wpAny _ _ (Bytes.bytesLike _ (.bytes c u) >>= fun r => _) _ _ s
  refine wpAny_bind (wpAny_of_eq KBd.like_eq ?_)
  show wpAny _ _ (if c.isEmpty = true then _ else _) _ _ s
  rw [if_neg (by rw [hc]; exact Bool.false_ne_true)]
  show wpAny _ _ (if ((Bytes.occurrences b c 0 b.size).take (b.size + 1)).isEmpty = true then _ else _) _ _ s
  rw [if_neg (by rw [hp]; exact Bool.false_ne_true)]
  refine wpAny_bind (mapM_new _ _ _ hz fun vs k hv => ?_)
  refine wpAny_bind (wpAny_newList ?_ ?_)
  · exact wpAny_pure ⟨_, rfl, h vs k hv⟩
  · rw [hv.length, List.length_map]; exact hn
theorem take_eq {id : String} : Bytes.takeBufferQuiet? id (.bytes b t) 0 = pure (some (b, none)) := by
  have e : Bytes.takeBuffer? id (.bytes b t) 0 = pure (some (b, none)) := by
    unfold Bytes.takeBuffer?
    rw [KBy.special_eq KBy.look_buffer, KBy.own_buffer]
    simp only [pure_bind]
    show (Bytes.buffer? id (.bytes b t) _ >>= fun r => _) = _
    rw [show Bytes.buffer? id (.bytes b t) ((0 : Int) == Bytes.fullReadOnly) = pure (some b) from KBy.buffer_eq]
    rfl
  unfold Bytes.takeBufferQuiet?
  rw [e]
  rfl
def joinL (c : Array UInt8) (bs : List (List UInt8)) : Array UInt8 := Bytes.joined c (bs.map List.toArray)
theorem joined_from (c : Array UInt8) : ∀ (ps : List (Array UInt8)) (k : Nat) (out : Array UInt8), 0 < k →
    ((ps.zipIdx k).foldl (fun out (x : Array UInt8 × Nat) => (if x.2 > 0 then out ++ c else out) ++ x.1) out).toList = out.toList ++ ps.flatMap fun p => c.toList ++ p.toList
  | [], _, _, _ => by simp
  | p :: ps, k, out, hk => by
    rw [List.zipIdx_cons, List.foldl_cons, joined_from c ps (k + 1) _ (by omega)]
    simp [hk]
theorem joinL_cons (c : Array UInt8) (b : List UInt8) (bs : List (List UInt8)) : (joinL c (b :: bs)).toList = b ++ bs.flatMap fun p => c.toList ++ p := by
  unfold joinL Bytes.joined
  rw [List.map_cons, List.zipIdx_cons, List.foldl_cons]
  have := joined_from c (bs.map List.toArray) 1 (#[] ++ b.toArray) (by omega)
  rw [Nat.zero_add]
  simp only [Nat.lt_irrefl, gt_iff_lt, if_false]
  rw [this]
  simp [List.flatMap_map]
theorem joinL_nil (c : Array UInt8) : joinL c [] = #[] := rfl
theorem forIn_range {M : Model} {A : Around} {E : Value → Shared → Prop} {s : Shared} {β : Type} {n : Nat} (f : Nat → β → Sem (ForInStep β)) (I : Nat → β → Prop) {b : β} {Q : β → Shared → Prop} (h0 : I 0 b)
    (turn : ∀ i b, i < n → I i b → wpAny M A (f i b) (fun r s' => ∃ b', r = .yield b' ∧ I (i + 1) b' ∧ s' = s) E s) (fin : ∀ b, I n b → Q b s) : wpAny M A (forIn [:n] b f) Q E s := by
  rw [Std.Legacy.Range.forIn_eq_forIn_range']
  refine wpAny_forIn_list f (fun rest b s' => ∃ i, i + rest.length = n ∧ rest = List.range' i rest.length ∧ I i b ∧ s' = s) Q ?_ ?_ _ b ⟨0, by simp [Std.Legacy.Range.size], by simp [Std.Legacy.Range.size], h0, rfl⟩
  · rintro x rest b s' ⟨i, hn, hr, hI, rfl⟩
    rw [List.length_cons] at hn hr
    rw [List.range'_succ] at hr
    injection hr with e1 e2
    subst e1
    refine wpAny_mono (turn _ b (by omega) hI) (fun r s₂ hq => ?_) fun _ _ e => e
    obtain ⟨b', rfl, hI', rfl⟩ := hq
    exact ⟨x + 1, by omega, e2, hI', rfl⟩
  · rintro b s' ⟨i, hn, _, hI, rfl⟩
    rw [List.length_nil, Nat.add_zero] at hn
    subst hn
    exact fin b hI
theorem letGo_taken {M : Model} {A : Around} {E : Value → Shared → Prop} {s : Shared} {Q : Unit → Shared → Prop} (keep : List Value) : ∀ (l : List (Value × Option Value)), (∀ p ∈ l, p.2 = none) → Q () s → wpAny M A (Bytes.joinLetGo l keep) Q E s
  | [], _, h => wpAny_pure h
  | (x, w) :: r, hl, h => by
    have hw : w = none := hl _ (.head _)
    subst hw
    unfold Bytes.joinLetGo
    refine wpAny_bind (wpAny_letGo ?_)
    exact letGo_taken keep r (fun p hp => hl p (.tail _ hp)) h
theorem parts_size (n : Nat) (l : List (List UInt8)) : Array.foldl (fun (x1 : Nat) (x2 : Array UInt8) => x1 + x2.size) n (l.map List.toArray).toArray = n + (l.map List.length).sum := by
  rw [List.foldl_toArray']
  · induction l generalizing n with
    | nil => simp
    | cons a r ih => simp only [List.map_cons, List.foldl_cons, List.sum_cons]; rw [ih]; simp; omega
  · simp
theorem wpAny_eq_of {α : Type} {M : Model} {A : Around} {E : Value → Shared → Prop} {s : Shared} {Q : α → Shared → Prop} {t t' : Sem α} (e : t = t') (h : wpAny M A t' Q E s) : wpAny M A t Q E s := e ▸ h
theorem meets_join {l : Addr} {vs : List Value} {bs : List (List UInt8)} (hv : BAre vs bs) (hz : (joinL c bs).size ≤ sizeLine) (hl : c.size * bs.length + (bs.map List.length).sum ≤ sizeLine) :
    Meets («bytes.join» ⟨[.bytes c u, .ref l], []⟩) (fun _ R s => s.heap.IsList l vs.toArray ∧ ∀ t' k, R (.ok (.ret (.bytes (joinL c bs) t'))) { s with toks := k }) := by
  refine .of_wp fun prog w A R s hS => ?_
  obtain ⟨hL, h⟩ := hS
  show wpAny _ _ (Bytes.joinItems (.ref l) >>= fun r => _) _ _ s
  refine wpAny_bind ?_
  unfold Bytes.joinItems
  refine wpAny_bind (wpAny_typeOf hL.typeIs ?_)
  refine wpAny_pure ?_
  have hit : ∀ {Q : Option (Array Value) → Shared → Prop}, Q (some vs.toArray) s → wpAny (model prog w) A.in1 (seqItems? (.ref l)) Q (fun e s' => R (.error e) s') s := fun hq => by
    obtain ⟨o, ho, _, n, hd⟩ := hL
    exact wpAny_seqItems ho hd hq
  refine wpAny_bind (hit ?_)
  dsimp only
  refine wpAny_ite (KBc.ite_yes (show (Bytes.Kind.bytes == Bytes.Kind.bytes) = true by decide) ?_)
  have one : vs.length = 1 ∨ vs.length ≠ 1 := by omega
  rcases one with h1 | h1
  · cases hv with
    | nil => cases h1
    | cons h2 =>
    cases h2 with
    | cons h3 => simp at h1
    | nil =>
    refine wpAny_bind (wpAny_typeOf (typeIs_bytes _ _ _) ?_)
    refine wpAny_ite (KBc.ite_yes (by decide) ?_)
    refine wpAny_bind (wpAny_rule ?_)
    refine wpAny_pure ⟨_, rfl, ?_⟩
    rename_i t1 b1
    have := h t1 s.toks
    rw [show joinL c [b1] = b1.toArray by simp [joinL, Bytes.joined]] at this
    exact this
  · cases vs with
    | nil =>
      show wpAny _ _ (forIn [:Array.size _] (#[], []) _ >>= fun r => _) _ _ s
      generalize hus : ([] : List Value) = vs at hv hL hit ⊢
      refine wpAny_bind ?_
      refine forIn_range _ (fun i p => p.1 = ((bs.take i).map List.toArray).toArray ∧ ∀ q ∈ p.2, q.1.onHeap = false ∧ q.2 = none) ⟨by simp, by simp⟩ ?_ ?_
      · rintro i ⟨parts, taken⟩ hi ⟨hp, hq⟩
        dsimp only at hp hq ⊢
        refine wpAny_bind (hit ?_)
        dsimp only
        have hb : i < bs.length := by rw [← hv.length]; simpa using hi
        obtain ⟨t0, ht0⟩ := hv.get i bs[i] (by simp [hb])
        have hx : vs.toArray.getD i .none = .bytes (bs[i]).toArray t0 := by
          rw [Array.getD_eq_getD_getElem?]; simp [ht0]
        rw [hx]
        rw [if_neg (by
          have : (taken.any fun x => x.fst.onHeap) = false := by
            rw [List.any_eq_false]; intro q hq'; rw [(hq q hq').1]; exact Bool.false_ne_true
          rw [this]; decide)]
        refine wpAny_bind (wpAny_holding (wpAny_of_eq take_eq ?_))
        dsimp only
        refine wpAny_bind (hit ?_)
        dsimp only
        rw [if_neg (by simp)]
        refine wpAny_pure ⟨_, rfl, ⟨?_, ?_⟩, rfl⟩
        · dsimp only
          rw [hp, List.take_add_one, List.getElem?_eq_getElem hb]
          simp only [List.push_toArray, Option.toList_some, List.map_append, List.map_cons, List.map_nil]
        · intro q hq'
          rcases List.mem_append.mp hq' with h1 | h1
          · exact hq q h1
          · rw [List.mem_singleton.mp h1]; exact ⟨rfl, rfl⟩
      · rintro ⟨parts, taken⟩ ⟨hp, hq⟩
        dsimp only at hp hq ⊢
        have hn : vs.toArray.size = bs.length := by rw [List.size_toArray, hv.length]
        rw [hn, List.take_length] at hp
        subst hp
        refine wpAny_bind (wpAny_of_eq (a := c) rfl ?_)
        rw [parts_size, if_neg (by
          rw [Bytes.tooLong]
          have : c.size * ((bs.map List.toArray).toArray.size - 1) ≤ c.size * bs.length := Nat.mul_le_mul_left _ (by simp)
          simp only [decide_eq_true_eq]
          omega)]
        refine wpAny_bind (wpAny_mkBytes ?_ ?_)
        · refine wpAny_bind (wpAny_holding (wpAny_point ?_))
          refine wpAny_bind (letGo_taken _ _ (fun p hp => (hq p hp).2) ?_)
          exact wpAny_pure ⟨_, rfl, h _ _⟩
        · exact hz
    | cons v0 vs =>
    cases vs with
    | nil => exact absurd rfl h1
    | cons v1 vs =>
      show wpAny _ _ (forIn [:Array.size _] (#[], []) _ >>= fun r => _) _ _ s
      generalize hus : v0 :: v1 :: vs = vs at hv hL hit ⊢
      refine wpAny_bind ?_
      refine forIn_range _ (fun i p => p.1 = ((bs.take i).map List.toArray).toArray ∧ ∀ q ∈ p.2, q.1.onHeap = false ∧ q.2 = none) ⟨by simp, by simp⟩ ?_ ?_
      · rintro i ⟨parts, taken⟩ hi ⟨hp, hq⟩
        dsimp only at hp hq ⊢
        refine wpAny_bind (hit ?_)
        dsimp only
        have hb : i < bs.length := by rw [← hv.length]; simpa using hi
        obtain ⟨t0, ht0⟩ := hv.get i bs[i] (by simp [hb])
        have hx : vs.toArray.getD i .none = .bytes (bs[i]).toArray t0 := by
          rw [Array.getD_eq_getD_getElem?]; simp [ht0]
        rw [hx]
        rw [if_neg (by
          have : (taken.any fun x => x.fst.onHeap) = false := by
            rw [List.any_eq_false]; intro q hq'; rw [(hq q hq').1]; exact Bool.false_ne_true
          rw [this]; decide)]
        refine wpAny_bind (wpAny_holding (wpAny_of_eq take_eq ?_))
        dsimp only
        refine wpAny_bind (hit ?_)
        dsimp only
        rw [if_neg (by simp)]
        refine wpAny_pure ⟨_, rfl, ⟨?_, ?_⟩, rfl⟩
        · dsimp only
          rw [hp, List.take_add_one, List.getElem?_eq_getElem hb]
          simp only [List.push_toArray, Option.toList_some, List.map_append, List.map_cons, List.map_nil]
        · intro q hq'
          rcases List.mem_append.mp hq' with h1 | h1
          · exact hq q h1
          · rw [List.mem_singleton.mp h1]; exact ⟨rfl, rfl⟩
      · rintro ⟨parts, taken⟩ ⟨hp, hq⟩
        dsimp only at hp hq ⊢
        have hn : vs.toArray.size = bs.length := by rw [List.size_toArray, hv.length]
        rw [hn, List.take_length] at hp
        subst hp
        refine wpAny_bind (wpAny_of_eq (a := c) rfl ?_)
        rw [parts_size, if_neg (by
          rw [Bytes.tooLong]
          have : c.size * ((bs.map List.toArray).toArray.size - 1) ≤ c.size * bs.length := Nat.mul_le_mul_left _ (by simp)
          simp only [decide_eq_true_eq]
          omega)]
        refine wpAny_bind (wpAny_mkBytes ?_ ?_)
        · refine wpAny_bind (wpAny_holding (wpAny_point ?_))
          refine wpAny_bind (letGo_taken _ _ (fun p hp => (hq p hp).2) ?_)
          exact wpAny_pure ⟨_, rfl, h _ _⟩
        · exact hz
end
section
variable {prog : Program} {w : World} {A : Around} {E : Value → Shared → Prop} {s : Shared} {b c : Array UInt8} {t u : Tok} {Q : Value → Shared → Prop}
theorem rfind (h : ∀ t' k, Q (.int (rfindI b c) t') { s with toks := k }) : wpAny (model prog w) A (call (.builtin "bytes.rfind") [.bytes b t, .bytes c u]) Q E s :=
  call_meets slot_rfind (typeIs_bytes _ _ _) entry_rfind (args_rfind _ _) meets_rfind h
theorem count (hc : c.isEmpty = false) (h : ∀ t' k, Q (.int (countI b c) t') { s with toks := k }) : wpAny (model prog w) A (call (.builtin "bytes.count") [.bytes b t, .bytes c u]) Q E s :=
  call_meets slot_count (typeIs_bytes _ _ _) entry_count (args_count _ _) (meets_count hc) h
theorem starts (h : Q (.bool (startsI b c)) s) : wpAny (model prog w) A (call (.builtin "bytes.startswith") [.bytes b t, .bytes c u]) Q E s :=
  call_meets FB.slot_bytes_startswith (typeIs_bytes _ _ _) FB.entry_bytes_startswith (FB.args_bytes_startswith_2 _ _) meets_starts h
theorem join {l : Addr} {vs : List Value} {bs : List (List UInt8)} (hL : s.heap.IsList l vs.toArray) (hv : BAre vs bs) (hz : (joinL c bs).size ≤ 16777216) (hl : c.size * bs.length + (bs.map List.length).sum ≤ 16777216)
    (h : ∀ t' k, Q (.bytes (joinL c bs) t') { s with toks := k }) : wpAny (model prog w) A (call (.builtin "bytes.join") [.bytes c u, .ref l]) Q E s :=
  call_meets slot_join (typeIs_bytes _ _ _) entry_join (args_join _ _) (meets_join hv (by rw [sizeLine_eq]; exact hz) (by rw [sizeLine_eq]; exact hl)) ⟨hL, h⟩
theorem split (hc : c.isEmpty = false) (hp : ((Bytes.occurrences b c 0 b.size).take (b.size + 1)).isEmpty = false) (hz : ∀ p ∈ splitL b c, p.size ≤ 16777216) (hn : (splitL b c).length ≤ 16777216)
    (h : ∀ vs k, BAre vs ((splitL b c).map Array.toList) → Q (.ref s.heap.objs.size) { s with heap := s.heap.push { cls := .type "list", data := .seq vs.toArray }, toks := k }) :
    wpAny (model prog w) A (call (.builtin "bytes.split") [.bytes b t, .bytes c u]) Q E s :=
  call_meets slot_split (typeIs_bytes _ _ _) entry_split (args_split _ _) (meets_split hc hp (by rw [sizeLine_eq]; exact hz) (by rw [sizeLine_eq]; exact hn)) h
theorem rstrip (hb : b.size ≤ 16777216) (h : ∀ t' k, Q (.bytes (rstripL b c).toArray t') { s with toks := k }) : wpAny (model prog w) A (call (.builtin "bytes.rstrip") [.bytes b t, .bytes c u]) Q E s :=
  call_meets slot_rstrip (typeIs_bytes _ _ _) entry_rstrip (args_rstrip _ _) meets_rstrip ⟨by rw [sizeLine_eq]; exact hb, h⟩
theorem get_join {M : Model} {pl : Sem Bool} {Q : Value × List Value → Shared → Prop} (h : Q (.builtin "bytes.join", [.bytes b t]) s) : wpAny M A (getMethod (.bytes b t) "join" pl) Q E s := by
  with_reducible exact KBd.method_of (.bytes b t) (typeIs_bytes _ _ _) slot_join type_join KBd.noRef h
theorem get_split {M : Model} {pl : Sem Bool} {Q : Value × List Value → Shared → Prop} (h : Q (.builtin "bytes.split", [.bytes b t]) s) : wpAny M A (getMethod (.bytes b t) "split" pl) Q E s := by
  with_reducible exact KBd.method_of (.bytes b t) (typeIs_bytes _ _ _) slot_split type_split KBd.noRef h
theorem get_rfind {M : Model} {pl : Sem Bool} {Q : Value × List Value → Shared → Prop} (h : Q (.builtin "bytes.rfind", [.bytes b t]) s) : wpAny M A (getMethod (.bytes b t) "rfind" pl) Q E s := by
  with_reducible exact KBd.method_of (.bytes b t) (typeIs_bytes _ _ _) slot_rfind type_rfind KBd.noRef h
theorem get_rstrip {M : Model} {pl : Sem Bool} {Q : Value × List Value → Shared → Prop} (h : Q (.builtin "bytes.rstrip", [.bytes b t]) s) : wpAny M A (getMethod (.bytes b t) "rstrip" pl) Q E s := by
  with_reducible exact KBd.method_of (.bytes b t) (typeIs_bytes _ _ _) slot_rstrip type_rstrip KBd.noRef h
theorem get_count {M : Model} {pl : Sem Bool} {Q : Value × List Value → Shared → Prop} (h : Q (.builtin "bytes.count", [.bytes b t]) s) : wpAny M A (getMethod (.bytes b t) "count" pl) Q E s := by
  with_reducible exact KBd.method_of (.bytes b t) (typeIs_bytes _ _ _) slot_count type_count KBd.noRef h
theorem get_starts {M : Model} {pl : Sem Bool} {Q : Value × List Value → Shared → Prop} (h : Q (.builtin "bytes.startswith", [.bytes b t]) s) : wpAny M A (getMethod (.bytes b t) "startswith" pl) Q E s := by
  with_reducible exact KBd.method_of (.bytes b t) (typeIs_bytes _ _ _) FB.slot_bytes_startswith FB.type_bytes_startswith KBd.noRef h
end
end BM
end Mine
end
section
open PySem PySem.W PyProof.Rows
set_option Elab.async false
set_option maxRecDepth 100000
namespace Mine
section
variable {prog : Program} {w : World} {A : Around} {s : Shared} {h₀ : Heap} {L : Addr} {m : Str → Option Value} {env : Env}
/-- a comprehension by what holds ahead of each turn: the turn's number, the list so far, the ledger -/
theorem comp_inv {elt : Expr} {x : Str} {scope : Scope} {cl : List (Str × Addr)} {S : List (Addr × Obj) → Prop} {P : Nat → Value → Prop} {Fin : List Value → List (Addr × Obj) → Prop} {n : Nat} (J : Nat → List Value → List (Addr × Obj) → Prop)
    (turn : ∀ i ys nw v I oI C oC D m₂ h tk (E' : Value → Shared → Prop), i < n → J i ys nw → P i v → LCg.NsObj oC m₂ → m₂ x = some v → Fr h₀ L h m → News h₀ L h ((I, oI) :: (C, oC) :: (D, LCg.lst ys) :: nw) → LCg.Off3 I C D nw → ((@Ne Nat I C) ∧ (@Ne Nat I D) ∧ (@Ne Nat C D)) →
      wpAny (model prog w) A (eval elt (compEnvC scope cl C env)) (LCg.CompEnd h₀ L m { s with heap := h, toks := tk } I oI C oC D (LCg.lst ys) S (fun y nw' => J (i + 1) (ys ++ [y]) nw')) E' { s with heap := h, toks := tk })
    (fin : ∀ ys nw, J n ys nw → Fin ys nw) :
    ∀ (k i : Nat) (ys : List Value) (nw : List (Addr × Obj)), i + k = n → J i ys nw → LCg.CompRest prog w A h₀ L m env elt x scope cl s S P Fin k i ys nw
  | 0, i, ys, nw, e, hj => by
    rw [Nat.add_zero] at e
    subst e
    exact LCg.CompRest.zero (fin ys nw hj)
  | k + 1, i, ys, nw, e, hj => by
    refine LCg.CompRest.succ fun v I oI C oC D m₂ h tk E' hP hC hx F N off ne => ?_
    refine wpAny_mono (turn i ys nw v I oI C oC D m₂ h tk E' (by omega) hj hP hC hx F N off ne) (fun y s₂ he => ?_) fun _ _ e => e
    obtain ⟨h', tk', nw', rfl, F', N', off', hS', hj'⟩ := he
    exact ⟨h', tk', nw', rfl, F', N', off', hS', comp_inv J turn fin k (i + 1) (ys ++ [y]) nw' (by omega) hj'⟩
theorem comp_keep {elt : Expr} {x : Str} {scope : Scope} {cl : List (Str × Addr)} {S : List (Addr × Obj) → Prop} {P : Nat → Value → Prop} {Fin : List Value → List (Addr × Obj) → Prop} {n : Nat} {nw : List (Addr × Obj)} (J : Nat → List Value → Prop)
    (turn : ∀ i ys v I oI C oC D m₂ h tk (E' : Value → Shared → Prop), i < n → J i ys → P i v → LCg.NsObj oC m₂ → m₂ x = some v → Fr h₀ L h m → News h₀ L h ((I, oI) :: (C, oC) :: (D, LCg.lst ys) :: nw) → LCg.Off3 I C D nw → ((@Ne Nat I C) ∧ (@Ne Nat I D) ∧ (@Ne Nat C D)) →
      wpAny (model prog w) A (eval elt (compEnvC scope cl C env)) (LCg.CompEnd h₀ L m { s with heap := h, toks := tk } I oI C oC D (LCg.lst ys) S (fun y nw' => nw' = nw ∧ J (i + 1) (ys ++ [y]))) E' { s with heap := h, toks := tk })
    (h0 : J 0 []) (fin : ∀ ys, J n ys → Fin ys nw) : LCg.CompRest prog w A h₀ L m env elt x scope cl s S P Fin n 0 [] nw :=
  comp_inv (fun i ys nw' => nw' = nw ∧ J i ys) (fun i ys nw' v I oI C oC D m₂ h tk E' hi hj hP hC hx F N off ne => by
    obtain ⟨rfl, hj⟩ := hj
    exact turn i ys v I oI C oC D m₂ h tk E' hi hj hP hC hx F N off ne) (fun ys nw' hj => by obtain ⟨rfl, hj⟩ := hj; exact fin ys hj) n 0 [] nw (Nat.zero_add n) ⟨rfl, h0⟩
end
end Mine
end
section
open PySem PySem.W PySem.Calls PyProof.Rows
set_option Elab.async false
set_option maxRecDepth 100000
namespace Mine
namespace IS
section
variable {prog : Program} {w : World} {A : Around} {E : Value → Shared → Prop} {h : Heap} {g : Array GenState} {d : Drawn} {t : Nat} {os : OsState} {b : Array UInt8} {u : Tok}
theorem type_bytes {Q : Value → Shared → Prop} (hq : Q (.type "bytes") ⟨h, g, d, t, os⟩) : wpAny (model prog w) A (call (.type "type") [.bytes b u]) Q E ⟨h, g, d, t, os⟩ := by
  refine wpAny_call (codeAny_of_tree ?_)
  show wpAny _ _ (callAny (.type "type") ⟨[.bytes b u], []⟩) _ _ _
  simp only [callAny]
  refine wpAny_pure ⟨Code.quiet_builtin _ (by decide +kernel), codeAny_builtin entry_type_call ?_⟩
  unfold Builtin.«type.__call__»
  dsimp only
  unfold shownTypeOf
  repeat (first | wp_step)
  exact hq
theorem bytes_str : isSubtype (.type "bytes") (.type "str") = pure false := by rw [isSubtype_type]; kernel_rfl
theorem bytes_bytes : isSubtype (.type "bytes") (.type "bytes") = pure true := by rw [isSubtype_type]; kernel_rfl
theorem tuple_tuple : isSubtype (.type "tuple") (.type "tuple") = pure true := by rw [isSubtype_type]; kernel_rfl
theorem kind_nest : builtinKind "issubclass.nested" = none := by decide +kernel
theorem plain_nest : plainId "issubclass.nested" = true := by decide +kernel
theorem args_nest (a b c : Value) : argsOk "issubclass.nested" ⟨[a, b, c], []⟩ := by unfold argsOk; kernel_rfl
theorem nest {Y : String} {r : Bool} {dep : Int} {tk : Tok} {s : Shared} {Q : Fin → Shared → Prop} (hty : typeOf (.type Y) = pure (.type "type")) (hs : isSubtype (.type "bytes") (.type Y) = pure r) (hq : Q (.done (.ret (.bool r))) s) :
    wpAny (model prog w) A (Builtin.«issubclass.nested» ⟨[.type "bytes", .type Y, .int dep tk], []⟩) Q E s := by
  unfold Builtin.«issubclass.nested»
  dsimp only
  rw [hty]
  repeat (any_goals (first | assumption | (rw [hs]) | wp_step))
theorem nest_call {Y : String} {r : Bool} {dep : Int} {tk : Tok} {s : Shared} {Q : Value → Shared → Prop} (hty : typeOf (.type Y) = pure (.type "type")) (hs : isSubtype (.type "bytes") (.type Y) = pure r) (hq : Q (.bool r) s) :
    wpAny (model prog w) A (call (.builtin "issubclass.nested") [.type "bytes", .type Y, .int dep tk]) Q E s := by
  exact call_function_meets (S := fun _ R s => R (.ok (.ret (.bool r))) s) kind_nest plain_nest F.entry_issubclass_nested (args_nest _ _ _) (.of_wp fun prog w A R s h => nest hty hs ⟨_, rfl, h⟩) hq
theorem two {a : Addr} {s : Shared} {R : Result → Shared → Prop} (ht : IsTup s.heap a #[.type "str", .type "bytes"]) (hq : R (.ok (.ret (.bool true))) s) :
    wpAny (model prog w) A.in1 (Builtin.«issubclass.nested» ⟨[.type "bytes", .ref a, rawInt 0], []⟩)
      (fun fin s' => match fin with | .done f => R (.ok f) s' | .again c' => c'.quiet = true ∧ codeAny (model prog w) A c' R s') (fun e s' => R (.error e) s') s := by
  have hT : s.TypeIs (.ref a) "tuple" := by obtain ⟨o, ho, hc, _⟩ := ht; exact ⟨o, ho, hc⟩
  have hh := tuple_tuple
  have hit : ∀ {Q : Option (Array Value) → Shared → Prop}, Q (some #[.type "str", .type "bytes"]) s → wpAny (model prog w) A.in1 (seqItems? (.ref a)) Q (fun e s' => R (.error e) s') s := fun hq => by
    obtain ⟨o, ho, _, n, hd⟩ := ht
    exact wpAny_seqItems ho hd hq
  unfold Builtin.«issubclass.nested»
  dsimp only
  refine wpAny_bind (wpAny_typeOf hT ?_)
  refine wpAny_ite (KBy.ite_no (by decide) ?_)
  unfold Builtin.Builtins.unionMembers
  refine wpAny_bind (wpAny_bind (wpAny_typeOf hT ?_))
  refine wpAny_ite (KBy.ite_no (by decide) (wpAny_pure ?_))
  refine wpAny_bind (wpAny_isInstance hT hh ?_)
  refine wpAny_ite (KBc.ite_yes rfl ?_)
  refine wpAny_ite (KBy.ite_no (by decide) ?_)
  refine wpAny_bind (hit ?_)
  refine wpAny_bind ?_
  rw [Option.getD_some, ← Array.forIn_toList]
  show wpAny _ _ (forIn [Value.type "str", Value.type "bytes"] _ _) _ _ s
  rw [List.forIn_cons]
  refine wpAny_bind (wpAny_bind (nest_call rfl bytes_str (wpAny_bind (wpAny_truthy_bool ?_))))
  refine wpAny_ite (KBy.ite_no (by decide) (wpAny_pure ?_))
  dsimp only
  rw [List.forIn_cons]
  refine wpAny_bind (wpAny_bind (nest_call rfl bytes_bytes (wpAny_bind (wpAny_truthy_bool ?_))))
  refine wpAny_ite (KBc.ite_yes rfl ?_)
  refine wpAny_bind (wpAny_pure (wpAny_pure ?_))
  exact wpAny_pure (wpAny_pure hq)
theorem sub_bytes {a : Addr} {s : Shared} {Q : Value → Shared → Prop} (ht : IsTup s.heap a #[.type "str", .type "bytes"]) (hq : Q (.bool true) s) :
    wpAny (model prog w) A (call (.builtin "issubclass") [.type "bytes", .ref a]) Q E s :=
  call_issubclass (S := fun _ R s => IsTup s.heap a #[.type "str", .type "bytes"] ∧ R (.ok (.ret (.bool true))) s) (fun _ _ _ _ _ hs => issubclass_outer (two hs.1 hs.2)) ⟨ht, hq⟩
end
end IS
end Mine
end
section
open PySem PySem.W PySem.Calls PyProof.Rows
set_option Elab.async false
set_option maxRecDepth 100000
set_option linter.unusedSimpArgs false
namespace Mine
open Builtin
theorem ltr_ne {d : Nat} (h : d < 16) : ltr d ≠ 47 ∧ ltr d ≠ 46 := by
  have e : ∀ d : Fin 16, ltr d.val ≠ 47 ∧ ltr d.val ≠ 46 := by decide +kernel
  exact e ⟨d, h⟩
theorem ltr_inj {a b : Nat} (ha : a < 16) (hb : b < 16) (h : ltr a = ltr b) : a = b := by
  have e : ∀ a b : Fin 16, ltr a.val = ltr b.val → a.val = b.val := by decide +kernel
  exact e ⟨a, ha⟩ ⟨b, hb⟩ h
theorem ltr_lt {a b : Nat} (ha : a < 16) (hb : b < 16) : ltr a < ltr b ↔ a < b := by
  have e : ∀ a b : Fin 16, ltr a.val < ltr b.val ↔ a.val < b.val := by decide +kernel
  exact e ⟨a, ha⟩ ⟨b, hb⟩
/-- figures: each below sixteen, at most five -/
def Fig (ds : List Nat) : Prop := (∀ d ∈ ds, d < 16) ∧ ds.length ≤ 5
theorem Fig.five {P : List Nat → Prop} (h0 : P []) (h1 : ∀ a, a < 16 → P [a]) (h2 : ∀ a b, a < 16 → b < 16 → P [a, b]) (h3 : ∀ a b c, a < 16 → b < 16 → c < 16 → P [a, b, c]) (h4 : ∀ a b c d, a < 16 → b < 16 → c < 16 → d < 16 → P [a, b, c, d])
    (h5 : ∀ a b c d e, a < 16 → b < 16 → c < 16 → d < 16 → e < 16 → P [a, b, c, d, e]) {ds : List Nat} (h : Fig ds) : P ds := by
  obtain ⟨hd, hl⟩ := h
  match ds, hd, hl with
  | [], _, _ => exact h0
  | [a], hd, _ => exact h1 a (hd a (by simp))
  | [a, b], hd, _ => exact h2 a b (hd a (by simp)) (hd b (by simp))
  | [a, b, c], hd, _ => exact h3 a b c (hd a (by simp)) (hd b (by simp)) (hd c (by simp))
  | [a, b, c, d], hd, _ => exact h4 a b c d (hd a (by simp)) (hd b (by simp)) (hd c (by simp)) (hd d (by simp))
  | [a, b, c, d, e], hd, _ => exact h5 a b c d e (hd a (by simp)) (hd b (by simp)) (hd c (by simp)) (hd d (by simp)) (hd e (by simp))
  | _ :: _ :: _ :: _ :: _ :: _ :: _, _, hl => simp at hl
theorem path_len {ds : List Nat} (h : Fig ds) : (pathL ds).length ≤ 10 := by
  refine Fig.five (P := fun ds => (pathL ds).length ≤ 10) ?_ ?_ ?_ ?_ ?_ ?_ h <;> intros <;> simp [pathL]
theorem split_path {ds : List Nat} (h : Fig ds) : BM.splitL (pathL ds).toArray [47].toArray = #[] :: (if ds = [] then [#[]] else ds.map fun d => #[ltr d]) := by
  refine Fig.five (P := fun ds => BM.splitL (pathL ds).toArray [47].toArray = #[] :: (if ds = [] then [#[]] else ds.map fun d => #[ltr d])) ?_ ?_ ?_ ?_ ?_ ?_ h <;> intros <;> simp_all [pathL, BM.splitL, Bytes.between, Bytes.occurrences, List.range_succ, ltr_ne]
theorem occ_path {ds : List Nat} (h : Fig ds) : ((Bytes.occurrences (pathL ds).toArray [47].toArray 0 (pathL ds).toArray.size).take ((pathL ds).toArray.size + 1)).isEmpty = false := by
  refine Fig.five (P := fun ds => ((Bytes.occurrences (pathL ds).toArray [47].toArray 0 (pathL ds).toArray.size).take ((pathL ds).toArray.size + 1)).isEmpty = false) ?_ ?_ ?_ ?_ ?_ ?_ h <;> intros <;> simp_all [pathL, Bytes.occurrences, List.range_succ, ltr_ne]
theorem rfind_path {ds : List Nat} (h : Fig ds) : BM.rfindI (pathL ds).toArray [47].toArray = ((2 * (ds.length - 1) : Nat) : Int) := by
  refine Fig.five (P := fun ds => BM.rfindI (pathL ds).toArray [47].toArray = ((2 * (ds.length - 1) : Nat) : Int)) ?_ ?_ ?_ ?_ ?_ ?_ h <;> intros <;> simp_all [pathL, BM.rfindI, BM.sw, Bytes.rfind?, List.range_succ, ltr_ne]
theorem count_path {ds : List Nat} (h : Fig ds) (h0 : ds ≠ []) : BM.countI (pathL ds).toArray [47].toArray = (ds.length : Int) := by
  revert h0
  refine Fig.five (P := fun ds => ds ≠ [] → BM.countI (pathL ds).toArray [47].toArray = (ds.length : Int)) ?_ ?_ ?_ ?_ ?_ ?_ h <;> intros <;> simp_all [pathL, BM.countI, BM.sw, Bytes.occurrences, List.range_succ, ltr_ne]
theorem starts_path {ds : List Nat} (h : Fig ds) : BM.startsI (pathL ds).toArray [47].toArray = true := by
  refine Fig.five (P := fun ds => BM.startsI (pathL ds).toArray [47].toArray = true) ?_ ?_ ?_ ?_ ?_ ?_ h <;> intros <;> simp [pathL, BM.startsI]
/-- what dirname cuts off: up to and with the last slash -/
def headL (ds : List Nat) : List UInt8 := if ds.length ≤ 1 then [47] else pathL ds.dropLast ++ [47]
theorem head_pick {ds : List Nat} (h : Fig ds) : KBy.picked (pathL ds).toArray none (some (((2 * (ds.length - 1) : Nat) : Int) + 1)) = (headL ds).toArray := by
  rw [KBc.picked_eq, show (((2 * (ds.length - 1) : Nat) : Int) + 1) = ((2 * (ds.length - 1) + 1 : Nat) : Int) by omega]
  simp only [Option.elim, clipAt_nat]
  refine Fig.five (P := fun ds => ((pathL ds).toArray.toList.drop 0 |>.take (min (2 * (ds.length - 1) + 1) (pathL ds).toArray.size - 0)).toArray = (headL ds).toArray) ?_ ?_ ?_ ?_ ?_ ?_ h <;> intros <;> simp [pathL, headL]
theorem head_len {ds : List Nat} (h : Fig ds) : (headL ds).length ≤ 10 ∧ 1 ≤ (headL ds).length := by
  refine Fig.five (P := fun ds => (headL ds).length ≤ 10 ∧ 1 ≤ (headL ds).length) ?_ ?_ ?_ ?_ ?_ ?_ h <;> intros <;> simp [headL, pathL]
theorem head_strip {ds : List Nat} (h : Fig ds) (h1 : ¬ ds.length ≤ 1) : (BM.rstripL (headL ds).toArray [47].toArray) = pathL ds.dropLast := by
  revert h1
  refine Fig.five (P := fun ds => ¬ ds.length ≤ 1 → (BM.rstripL (headL ds).toArray [47].toArray) = pathL ds.dropLast) ?_ ?_ ?_ ?_ ?_ ?_ h <;> intros <;> simp_all [pathL, headL, BM.rstripL, List.dropWhile, ltr_ne]
theorem head_one {ds : List Nat} (h : Fig ds) : ((headL ds) != (List.replicate (headL ds).length (47 : UInt8))) = !decide (ds.length ≤ 1) := by
  refine Fig.five (P := fun ds => ((headL ds) != (List.replicate (headL ds).length (47 : UInt8))) = !decide (ds.length ≤ 1)) ?_ ?_ ?_ ?_ ?_ ?_ h <;> intros <;> simp_all [pathL, headL, List.replicate, ltr_ne]
theorem rep47 (n : Nat) : (List.replicate n [(47 : UInt8)]).flatten = List.replicate n 47 := by
  induction n with
  | zero => rfl
  | succ n ih => rw [List.replicate_succ, List.flatten_cons, ih]; rfl
theorem rep47h (ds : List Nat) : (List.replicate (Int.toNat ((headL ds).toArray.size : Int)) [(47 : UInt8)]).flatten = List.replicate (headL ds).length 47 := by
  rw [Int.toNat_natCast, List.size_toArray, rep47]
theorem ne_head {ds : List Nat} (hf : Fig ds) : ((headL ds).toArray.toList != (List.replicate (headL ds).length (47 : UInt8)).toArray.toList) = !decide (ds.length ≤ 1) := head_one hf
theorem head_nil {ds : List Nat} (h1 : ds.length ≤ 1) : headL ds = pathL ds.dropLast := by
      match ds, h1 with
      | [], _ => rfl
      | [a], _ => rfl
end Mine
end
section
open PySem PySem.W PySem.Calls PyProof.Rows
set_option Elab.async false
set_option maxRecDepth 100000
namespace Mine
namespace MP
theorem slot_init : Slot "map" "__init__" "object.__init__" :=
  .of (owner := "object") (n := "__init__") (by rw [typeLookup_type, builtinLookup_eq_fast]; kernel_rfl) (by decide +kernel) (by decide +kernel) (by decide +kernel)
    (by first | exact .inl (by decide +kernel) | exact .inr (by decide +kernel)) (by rw [isSubtype_type]; kernel_rfl)
theorem slot_next : Slot "map" "__next__" "map.__next__" :=
  .of (owner := "map") (n := "__next__") (by rw [typeLookup_type, builtinLookup_eq_fast]; kernel_rfl) (by decide +kernel) (by decide +kernel) (by decide +kernel)
    (by first | exact .inl (by decide +kernel) | exact .inr (by decide +kernel)) (by rw [isSubtype_type]; kernel_rfl)
theorem slot_iter : Slot "map" "__iter__" "map.__iter__" :=
  .of (owner := "map") (n := "__iter__") (by rw [typeLookup_type, builtinLookup_eq_fast]; kernel_rfl) (by decide +kernel) (by decide +kernel) (by decide +kernel)
    (by first | exact .inl (by decide +kernel) | exact .inr (by decide +kernel)) (by rw [isSubtype_type]; kernel_rfl)
theorem entry_iter : entryFor table "map.__iter__" = some Builtin.«dict_keyiterator.__iter__» :=
  entryFor_alias (id' := "dict_keyiterator.__iter__") (by kernel_rfl) (by first | rfl | decide +kernel) (by decide +kernel) (by kernel_rfl)
theorem entry_next : entryFor table "map.__next__" = some Builtin.«map.__next__» := entryFor_of_tree (by kernel_rfl)
theorem entry_new : entryFor table "map.__new__" = some Builtin.«map.__new__» := entryFor_of_tree (by kernel_rfl)
theorem args_next (a : Value) : argsOk "map.__next__" ⟨[a], []⟩ := by unfold argsOk; kernel_rfl
theorem args_iter (a : Value) : argsOk "map.__iter__" ⟨[a], []⟩ := by unfold argsOk; kernel_rfl
theorem mro : mroOf (.type "map") = pure [.type "map", .type "object"] := by rw [mroOf_type]; kernel_rfl
theorem lookup_new : typeLookup (.type "map") "__new__" = pure (some (.builtin "map.__new__")) := by rw [typeLookup_type, builtinLookup_eq_fast]; kernel_rfl
theorem called : TypeCalled "map" "map.__new__" "object.__init__" :=
  ⟨by decide +kernel, by decide +kernel, ⟨_, _, mro⟩, madeBy_type mro lookup_new (by decide +kernel), by decide +kernel, by rw [isSubtype_type]; kernel_rfl, slot_init⟩
theorem typeCall (a b : Value) : checkTypeCall "map" ⟨[a, b], []⟩ = pure () := by kernel_rfl
theorem newCall (a b : Value) : checkBuiltinCall "map.__new__" ⟨[.type "map", a, b], []⟩ = pure () := by kernel_rfl
theorem sub_map : isSubtype (.type "map") (.type "map") = pure true := by rw [isSubtype_type]; kernel_rfl
theorem no_len : typeLookup (.type "map") "__len__" = pure none := by rw [typeLookup_type, builtinLookup_eq_fast]; kernel_rfl
theorem no_hint : typeLookup (.type "map") "__length_hint__" = pure none := by rw [typeLookup_type, builtinLookup_eq_fast]; kernel_rfl

end MP
end Mine
end
section
open PySem PySem.W PySem.Calls PyProof.Rows
set_option Elab.async false
set_option maxRecDepth 100000
namespace Mine
namespace MP
abbrev IsMap (h : Heap) (z T : Addr) (f : Value) : Prop := h.get? z = some { cls := .type "map", dict := none, data := .fields #[.ref T, f], slots := #[] }
abbrev IsOne (h : Heap) (T : Addr) (v : Value) : Prop := h.get? T = some { cls := .type "tuple", data := .seq #[v] }

theorem meets_new (f : Value) (l : Addr) (xs : Array Value) :
    Meets (Builtin.«map.__new__» ⟨[.type "map", f, .ref l], []⟩) (fun _ R s => s.heap.IsList l xs ∧ ∀ h' z T, IsMap h' z T f → IsOne h' T (.ref s.heap.objs.size) → h'.IsListIter s.heap.objs.size l 0 → z = s.heap.objs.size + 2 → T = s.heap.objs.size + 1 →
      (∀ c o, s.heap.get? c = some o → h'.get? c = some o) → R (.ok (.ret (.ref z))) { s with heap := h' }) :=
  .of_wp fun prog w A R s h => by
    obtain ⟨hp, g, d, tk, os⟩ := s; obtain ⟨hl, h⟩ := h
    have hsub := sub_map
    have hL : Heap.IsList (Shared.heap ⟨hp, g, d, tk, os⟩) l xs := hl
    wp_walk using wpAny_pyIter_list hL
    refine ⟨_, rfl, ?_⟩
    have g3 : ∀ (h : Heap) o, o.isFreed = false → (h.push o).get? h.objs.size = some o := fun h o e => Heap.get?_push_size _ e
    refine h _ _ _ (g3 _ _ rfl) (Heap.get?_push_of_some _ (g3 _ _ rfl)) ⟨_, Heap.get?_push_of_some _ (Heap.get?_push_of_some _ (g3 _ _ rfl)), rfl, rfl⟩ ?_ ?_ fun c o e => Heap.get?_push_of_some _ (Heap.get?_push_of_some _ (Heap.get?_push_of_some _ e))
    · simp only [Heap.size_push]
    · simp only [Heap.size_push]
section
variable {prog : Program} {w : World} {A : Around} {E : Value → Shared → Prop} {s : Shared}
theorem call_map {f : Value} {l : Addr} {xs : Array Value} {Q : Value → Shared → Prop} (hl : s.heap.IsList l xs)
    (h : ∀ h' z T, IsMap h' z T f → IsOne h' T (.ref s.heap.objs.size) → h'.IsListIter s.heap.objs.size l 0 → z = s.heap.objs.size + 2 → T = s.heap.objs.size + 1 → (∀ c o, s.heap.get? c = some o → h'.get? c = some o) → Q (.ref z) { s with heap := h' }) :
    wpAny (model prog w) A (call (.type "map") [f, .ref l]) Q E s :=
  callType_new called (by decide) (typeCall _ _) (newCall _ _) (fun obj => F.args_object_init_3 obj _ _) entry_new (meets_new f l xs)
    ⟨hl, fun h' z T a b c d e k => ⟨⟨_, a, rfl⟩, h h' z T a b c d e k⟩⟩
theorem next_item {z T it l : Addr} {k : Nat} {xs : Array Value} {x f : Value} {Q : Value → Shared → Prop} (hzi : z ≠ it) (hTi : T ≠ it)
    (hz : IsMap s.heap z T f) (hT : IsOne s.heap T (.ref it)) (hi : s.heap.IsListIter it l k) (hl : s.heap.IsList l xs) (hx : xs[k]? = some x)
    (hQ : ∀ h', h'.IsListIter it l (k + 1) → Heap.SameBut it s.heap h' → wpAny (model prog w) A (call f [x]) Q E { s with heap := h' }) :
    wpAny (model prog w) A (Builtin.«map.__next__» ⟨[.ref z], []⟩) (fun fin s' => ∃ v, fin = .done (.ret v) ∧ Q v s') E s := by
  show wpAny _ _ (field (.ref z) 0 >>= _) _ _ _
  refine wpAny_bind (wpAny_field hz rfl (x := .ref T) rfl ?_)
  refine wpAny_bind (wpAny_seqItems hT rfl ?_)
  dsimp only
  refine wpAny_bind ?_
  rw [← Array.forIn_toList]
  show wpAny _ _ (forIn [Value.ref it] _ _) _ _ _
  rw [List.forIn_cons]
  refine wpAny_bind (wpAny_bind (wpAny_holding (wpAny_nextOf_list_item hi hl hx fun h' hi' hs => wpAny_pure ?_)))
  dsimp only
  rw [List.forIn_nil]
  refine wpAny_pure ?_
  refine wpAny_bind (wpAny_field (s := { s with heap := h' }) (hs.extBut _ _ hzi hz) rfl (x := f) rfl ?_)
  refine wpAny_bind (wpAny_holding (wpAny_mono (hQ h' hi' hs) (fun v s' hq => ?_) fun _ _ e => e))
  refine wpAny_bind (wpAny_letGo ?_)
  exact wpAny_pure ⟨_, rfl, hq⟩
theorem next_end {z T it l : Addr} {k : Nat} {xs : Array Value} {f : Value} {Q : Fin → Shared → Prop} (hh : A.handled = none)
    (hz : IsMap s.heap z T f) (hT : IsOne s.heap T (.ref it)) (hi : s.heap.IsListIter it l k) (hl : s.heap.IsList l xs) (hx : xs[k]? = none)
    (hE : ∀ h' e, Heap.ExtBut it s.heap h' → (∃ o, h'.get? e = some o ∧ o.cls = .type "StopIteration") → E (.ref e) { s with heap := h' }) :
    wpAny (model prog w) A (Builtin.«map.__next__» ⟨[.ref z], []⟩) Q E s := by
  show wpAny _ _ (field (.ref z) 0 >>= _) _ _ _
  refine wpAny_bind (wpAny_field hz rfl (x := .ref T) rfl ?_)
  refine wpAny_bind (wpAny_seqItems hT rfl ?_)
  dsimp only
  refine wpAny_bind ?_
  rw [← Array.forIn_toList]
  show wpAny _ _ (forIn [Value.ref it] _ _) _ _ _
  rw [List.forIn_cons]
  exact wpAny_bind (wpAny_bind (wpAny_holding (wpAny_nextOf_list_end hh hi hl hx hE)))
theorem pyNext_item {z T it l : Addr} {k : Nat} {xs : Array Value} {x f : Value} {Q : Option Value → Shared → Prop} (hzi : z ≠ it) (hTi : T ≠ it)
    (hz : IsMap s.heap z T f) (hT : IsOne s.heap T (.ref it)) (hi : s.heap.IsListIter it l k) (hl : s.heap.IsList l xs) (hx : xs[k]? = some x)
    (hQ : ∀ h' (E' : Value → Shared → Prop), h'.IsListIter it l (k + 1) → Heap.SameBut it s.heap h' → wpAny (model prog w) A.in1 (call f [x]) (fun v s' => Q (some v) s') E' { s with heap := h' }) :
    wpAny (model prog w) A (pyNext (.ref z)) Q E s := by
  have hTy : s.TypeIs (.ref z) "map" := ⟨_, hz, rfl⟩
  unfold pyNext
  exact wpAny_bind (wpAny_attempt (wpAny_callSpecial?_slot (name := Str.ofString "__next__") hTy slot_next
    (wpAny_call_entry slot_next hTy entry_next (next_item hzi hTi hz hT hi hl hx fun h' a b => wpAny_mono (hQ h' (fun _ _ => False) a b) (fun v s' q => wpAny_pure q) fun _ _ e => e.elim) (args_next _))))
theorem pyNext_end {z T it l : Addr} {k : Nat} {xs : Array Value} {f : Value} {Q : Option Value → Shared → Prop} (hh : A.handled = none)
    (hz : IsMap s.heap z T f) (hT : IsOne s.heap T (.ref it)) (hi : s.heap.IsListIter it l k) (hl : s.heap.IsList l xs) (hx : xs[k]? = none)
    (hQ : ∀ h', Heap.ExtBut it s.heap h' → Q none { s with heap := h' }) : wpAny (model prog w) A (pyNext (.ref z)) Q E s := by
  have hTy : s.TypeIs (.ref z) "map" := ⟨_, hz, rfl⟩
  unfold pyNext
  refine wpAny_bind (wpAny_attempt (wpAny_callSpecial?_slot (name := Str.ofString "__next__") hTy slot_next
    (wpAny_call_entry slot_next hTy entry_next (next_end hh hz hT hi hl hx fun h' e hk he => ?_) (args_next _))))
  obtain ⟨o, ho, hc⟩ := he
  refine wpAny_bind (wpAny_isInstance (T := "StopIteration") (b := true) ⟨o, ho, hc⟩ isSubtype_stop ?_)
  exact wpAny_pure (hQ _ hk)
theorem pyIter_map {z T : Addr} {f : Value} {Q : Value → Shared → Prop} (hz : IsMap s.heap z T f) (h : Q (.ref z) s) : wpAny (model prog w) A (pyIter (.ref z)) Q E s := by
  have hT : s.TypeIs (.ref z) "map" := ⟨_, hz, rfl⟩
  refine wpAny_pyIter_slot hT slot_iter (wpAny_call_entry slot_iter hT entry_iter ?_ (args_iter _))
  show wpAny _ _ (ret (.ref z)) _ _ s
  exact wpAny_pure ⟨_, rfl, "map", _, hT, slot_next.lookup, h⟩
end
section
variable {prog : Program} {w : World} {A : Around} {E : Value → Shared → Prop} {s : Shared} {I : Addr} {fp wr : List Addr} {G : Array GenState → Array GenState → Prop} {n : Nat} {P : Nat → Value → Prop} {St : Nat → Shared → Prop}
theorem collect_map {Q : List Value → Shared → Prop} (W : WalksS prog w A.in1 I fp wr G n P St) (hT : ∀ i s, St i s → s.TypeIs (.ref I) "map") (hst : St 0 s) (hfp : ∀ b ∈ fp, b < s.heap.objs.size) (hI : I ∈ fp)
    (hQ : ∀ s' acc, Moved wr G s s' → ItemsOf P acc n → Q acc.toList s') (hn : n ≤ sizeLine) : wpAny (model prog w) A (collect (.ref I)) Q E s := by
  have hSf : s.heap.objs.size ∉ fp := fun hm => Nat.lt_irrefl _ (hfp _ hm)
  have hSI : s.heap.objs.size ≠ I := fun e => hSf (e ▸ hI)
  unfold collect
  refine wpAny_bind (wpAny_runValue (codeAny_builtin F.entry_proto_collect ?_))
  rw [Around.under_plainId F.plain_proto_collect _]
  show wpAny _ A.in1 (newList [] >>= fun l => again (.builtin "list.__iadd__" ⟨[l, .ref I], []⟩)) _ _ s
  refine wpAny_bind (wpAny_newObj_type ?_)
  refine wpAny_pure ⟨plainId_quiet F.plain_list_iadd _, codeAny_builtin F.entry_list_iadd ?_⟩
  rw [Around.under_plainId F.plain_list_iadd _]
  generalize hH : s.heap.push { cls := .type "list", data := .seq ([] : List Value).toArray } = H
  have hold : ∀ b o, s.heap.get? b = some o → H.get? b = some o := fun b o e => hH ▸ Heap.get?_push_of_some _ e
  have hst₁ := W.frame 0 s H s.toks hst (Nat.le_refl _) fun b _ o e => hold b o e
  show wpAny _ A.in1 (Builtin.List.listExtendWith (.ref s.heap.objs.size) (.ref I) (.ref s.heap.objs.size)) _ _ _
  unfold Builtin.List.listExtendWith
  refine wpAny_bind (wpAny_typeOf (hT 0 _ hst₁) ?_)
  have h1 : Builtin.List.listSameRef (.ref s.heap.objs.size) (.ref I) = false := by simp [Builtin.List.listSameRef, hSI]
  have h2 : (Value.type "map" == Value.type "list") = false := by decide
  have h3 : (Value.type "map" == Value.type "tuple") = false := by decide
  simp only [h1, h2, h3, Bool.or_false, Bool.false_eq_true, if_false]
  refine wpAny_bind (W.self 0 _ _ _ hst₁ ?_)
  refine wpAny_bind (wpAny_holding ?_)
  unfold Builtin.List.listLengthHint
  refine wpAny_bind (wpAny_specialOf (hT 0 _ hst₁) no_len ?_)
  show wpAny _ A.in1 (specialOf (Value.ref I) (Str.ofString "__length_hint__") >>= _) _ _ _
  refine wpAny_bind (wpAny_specialOf (hT 0 _ hst₁) no_hint ?_)
  refine wpAny_pure ?_
  show wpAny _ A.in1 (rule "list.extend.makes-room" >>= fun _ => Builtin.List.listTouch (.ref s.heap.objs.size) >>= fun _ =>
    again (.builtin "list.extend.loop" ⟨[.ref s.heap.objs.size, .ref I, .ref s.heap.objs.size], []⟩)) _ _ _
  refine wpAny_bind (wpAny_rule ?_)
  have hS₁ : H.get? s.heap.objs.size = some { cls := .type "list", data := .seq ([] : List Value).toArray } := hH ▸ Heap.get?_push_size _ rfl
  refine wpAny_bind ?_
  show wpAny _ A.in1 (updateSeq s.heap.objs.size (·.push .none) >>= fun _ => updateSeq s.heap.objs.size (·.pop)) _ _ _
  refine wpAny_bind (wpAny_updateSeq hS₁ rfl ?_)
  have hS₂ := Heap.get?_update_self (Obj.mapSeq (·.push Value.none)) hS₁ rfl
  refine wpAny_updateSeq hS₂ rfl ?_
  have hS₃ := Heap.get?_update_self (Obj.mapSeq (·.pop)) hS₂ rfl
  have oth : ∀ b o, b ≠ s.heap.objs.size → H.get? b = some o → ((H.update s.heap.objs.size (Obj.mapSeq (·.push Value.none))).update s.heap.objs.size (Obj.mapSeq (·.pop))).get? b = some o :=
    fun b o hb e => (Heap.get?_update_other _ _ (Ne.symm hb)).trans ((Heap.get?_update_other _ _ (Ne.symm hb)).trans e)
  refine wpAny_pure ⟨plainId_quiet F.plain_extend_loop _, codeAny_extend_loopS W hn _ hSf _ n 0 _ _ _ rfl (Nat.zero_le _)
    (W.frame 0 ({ s with heap := H } : Shared) _ s.toks hst₁ (Nat.le_refl _) fun b hb o e => oth b o (fun h => hSf (h ▸ hb)) e) hS₃ (ItemsOf.nil P) fun s' acc' c' hm hS' hacc => ?_⟩
  show wpAny _ A (load s.heap.objs.size >>= _) _ _ s'
  refine wpAny_bind (wpAny_load hS' ?_)
  refine wpAny_pure (hQ s' acc' ⟨fun b o hb e => hm.heap b o (fun hx => ?_) (oth b o ?_ (hold b o e)), hm.gens, hm.drawn, hm.os, hm.toks⟩ hacc)
  · rcases List.mem_cons.mp hx with rfl | hx
    · exact Nat.lt_irrefl _ (Heap.lt_size e)
    · exact hb hx
  · exact Nat.ne_of_lt (Heap.lt_size e)
theorem code_tuple {Q₁ : Value → Shared → Prop} (W : WalksS prog w A.in1.in1 I fp wr G n P St) (hT : ∀ i s, St i s → s.TypeIs (.ref I) "map") (hst : St 0 s) (hfp : ∀ b ∈ fp, b < s.heap.objs.size) (hI : I ∈ fp)
    (h : ∀ s' acc, Moved wr G s s' → ItemsOf P acc n → Q₁ (.ref s'.heap.objs.size) { s' with heap := s'.heap.push { cls := .type "tuple", data := .seq acc } }) (hsz : n ≤ sizeLine) :
    codeAny (model prog w) A (.call (.builtin "tuple.__new__") ⟨[.type "tuple", .ref I], []⟩) (wants Q₁ E) s := by
  refine codeAny_of_tree ?_
  show wpAny _ A.in1 (do checkBuiltinCall "tuple.__new__" ⟨[.type "tuple", .ref I], []⟩; again (.builtin "tuple.__new__" ⟨[.type "tuple", .ref I], []⟩)) _ _ s
  refine wpAny_bind (wpAny_of_eq (F.newCall_tuple_1 _) (wpAny_pure ⟨plainId_quiet F.plain_tuple_new _, codeAny_builtin F.entry_tuple_new ?_⟩))
  rw [Around.under_plainId F.plain_tuple_new _]
  have hsub := sub_tuple_self
  have hinit := init_tuple_lookup
  have hmh := madeHere_tuple
  have hTI := hT 0 s hst
  wp_walk using wpAny_typeOf hTI, collect_map (hn := hsz) W hT hst hfp hI
  intro s' acc hm hacc
  show wpAny _ _ (Builtin.Tuple.tupleExact acc.toList.toArray >>= fun v => ret v) _ _ _
  unfold Builtin.Tuple.tupleExact
  rw [show acc.toList.toArray = acc by simp]
  refine wpAny_bind (wpAny_newObj_type ?_ (by show acc.size ≤ sizeLine; rw [hacc.1]; exact hsz))
  exact wpAny_pure (h s' acc hm hacc)
theorem call_tuple {Q : Value → Shared → Prop} (W : WalksS prog w A.in1.in1.in1 I fp wr G n P St) (hT : ∀ i s, St i s → s.TypeIs (.ref I) "map") (hst : St 0 s) (hfp : ∀ b ∈ fp, b < s.heap.objs.size) (hI : I ∈ fp)
    (hQ : ∀ s' acc, Moved wr G s s' → ItemsOf P acc n → Q (.ref s'.heap.objs.size) { s' with heap := s'.heap.push { cls := .type "tuple", data := .seq acc } }) (hsz : n ≤ sizeLine) :
    wpAny (model prog w) A (call (.type "tuple") [.ref I]) Q E s := by
  refine callType_codes (Q₁ := fun obj s₁ => s₁.TypeIs obj "tuple" ∧ Q obj s₁) F.called_tuple (F.typeCall_tuple_1 _) F.entry_object_init
    (code_tuple W hT hst hfp hI (fun s' acc hm hacc => ⟨⟨_, Heap.get?_push_size _ rfl, rfl⟩, hQ s' acc hm hacc⟩) hsz) fun obj s₁ h₁ => ?_
  exact ⟨h₁.1, F.args_object_init_2 obj _, object_init_meets F.called_tuple.init.lookup F.called_tuple.made (by decide) prog w A.in1 _ s₁ ⟨h₁.1, rfl, h₁.2⟩⟩
end
end MP
end Mine
end
section
open PySem PySem.W PySem.Calls PyProof.Rows
set_option Elab.async false
set_option maxRecDepth 100000
namespace Mine
namespace ST
def tab (b : Bool) : SetTable := { mask := 7, place := #[1], dummies := #[], finger := 0, led := b, moves := 0, plain := true }
abbrev nilSet (b : Bool) : Obj := { cls := .type "set", dict := none, data := .set #[] 0 (.fresh 0 0 b) }
abbrev oneSet (b : Bool) : Obj := { cls := .type "set", dict := none, data := .set #[(1, .bool true)] 1 (tab b) }
abbrev ledOf (w : World) : Bool := !(w.params.followText "set-order")
theorem lay (b : Bool) : layNew (.fresh 0 0 b) #[] 1 (.bool true) = (#[(1, .bool true)], tab b, false, false) := by cases b <;> kernel_rfl
theorem full (b : Bool) : (tab b).tooFull = false := by cases b <;> kernel_rfl
theorem fits (b : Bool) : (tab b).fits 1 = true := by cases b <;> kernel_rfl
theorem fits0 (b : Bool) : (SetTable.fresh 0 0 b).fits 0 = true := by cases b <;> kernel_rfl
section
variable {prog : Program} {w : World} {A : Around} {E : Value → Shared → Prop} {s : Shared} {a : Addr} {b : Bool}
theorem new {Q : Value → Shared → Prop} (h : Q (.ref s.heap.objs.size) { s with heap := s.heap.push (nilSet (ledOf w)) }) : wpAny (model prog w) A (newSet (.type "set")) Q E s := by
  unfold newSet setsByText
  refine wpAny_bind (wpAny_bind (wpAny_askSetting (wpAny_pure ?_)))
  dsimp only
  simp only [newObj]
  exact wpAny_bind (wpAny_alloc (wpAny_pure h))
theorem hash_true {Q : Int → Shared → Prop} (hu : A.units < cLine) (h : ∀ tk, Q 1 { s with toks := tk }) : wpAny (model prog w) A (pyHash (.bool true)) Q E s := by
  refine pyHash_slot (T := "bool") rfl F.slot_bool_hash entry_int_hash (args_int_hash _) (beq_builtin_none _) (.inr hu) ?_
  exact (show wpAny _ _ (do ret (← mkInt 1)) _ _ s from wpAny_bind (wpAny_mkInt (wpAny_pure ⟨_, _, rfl, h _⟩)))
theorem eq_true' {Q : Bool → Shared → Prop} (h : Q true s) : wpAny (model prog w) A (eqBool (.bool true) (.bool true)) Q E s := by
  unfold eqBool
  refine wpAny_holding ?_
  rw [if_pos (by decide)]
  exact wpAny_bind (wpAny_rule (wpAny_pure h))
theorem add_first {Q : Value → Shared → Prop} (hu : A.units + 1 < cLine) (ho : s.heap.get? a = some (nilSet b))
    (h : ∀ h' tk, Heap.SameBut a s.heap h' → h'.get? a = some (oneSet b) → Q .none { s with heap := h', toks := tk }) : wpAny (model prog w) A (call (.builtin "set.add") [.ref a, .bool true]) Q E s := by
  have hT : s.TypeIs (.ref a) "set" := ⟨_, ho, rfl⟩
  refine wpAny_call_entry F.slot_set_add hT F.entry_set_add ?_ (F.args_set_add_2 _ _)
  unfold Builtin.«set.add» Builtin.Frozenset.oneOther
  simp only [List.isEmpty_nil, bind_assoc]
  unfold Builtin.Frozenset.addrOf setAdd
  refine wpAny_bind (wpAny_pure ?_)
  refine wpAny_bind (wpAny_pure ?_)
  refine wpAny_bind (wpAny_holding (wpAny_bind (hash_true hu fun tk => ?_)))
  unfold setAddHashed setAddHashedIn
  refine wpAny_holding (wpAny_bind (wpAny_setState_of ho rfl (fits0 b) ?_))
  dsimp only
  rw [show byScan (.bool true) #[] = true from by kernel_rfl]
  simp only [↓reduceIte]
  unfold setAddByScan
  refine wpAny_bind (wpAny_bind (wpAny_rule (wpAny_bind ?_)))
  show wpAny _ _ (pure ScanMet.absent) _ _ _
  refine wpAny_pure ?_
  dsimp only
  rw [lay]
  refine wpAny_bind (wpAny_pure ?_)
  show wpAny _ _ ((if (tab b).plain then hashByValue 8 (.bool true) else pure true) >>= _) _ _ _
  rw [show (tab b).plain = true from rfl, if_pos rfl]
  refine wpAny_bind (wpAny_pure ?_)
  simp only [↓reduceIte]
  refine wpAny_bind (wpAny_storeSet_of ho rfl ?_ (by rw [sizeLine_eq]; decide))
  rw [full]
  refine wpAny_pure (wpAny_pure ?_)
  show wpAny _ _ (ret Value.none) _ _ _
  exact wpAny_pure ⟨_, rfl, h _ _ (Heap.SameBut.update ..) (Heap.get?_update_self _ ho rfl)⟩
theorem add_again {Q : Value → Shared → Prop} (hu : A.units + 1 < cLine) (ho : s.heap.get? a = some (oneSet b))
    (h : ∀ tk, Q .none { s with toks := tk }) : wpAny (model prog w) A (call (.builtin "set.add") [.ref a, .bool true]) Q E s := by
  have hT : s.TypeIs (.ref a) "set" := ⟨_, ho, rfl⟩
  refine wpAny_call_entry F.slot_set_add hT F.entry_set_add ?_ (F.args_set_add_2 _ _)
  unfold Builtin.«set.add» Builtin.Frozenset.oneOther
  simp only [List.isEmpty_nil, bind_assoc]
  unfold Builtin.Frozenset.addrOf setAdd
  refine wpAny_bind (wpAny_pure ?_)
  refine wpAny_bind (wpAny_pure ?_)
  refine wpAny_bind (wpAny_holding (wpAny_bind (hash_true hu fun tk => ?_)))
  unfold setAddHashed setAddHashedIn
  refine wpAny_holding (wpAny_bind (wpAny_setState_of ho rfl (fits b) ?_))
  dsimp only
  rw [show byScan (.bool true) #[(1, Value.bool true)] = true from by kernel_rfl]
  simp only [↓reduceIte]
  unfold setAddByScan
  refine wpAny_bind (wpAny_bind (wpAny_rule (wpAny_bind ?_)))
  show wpAny _ _ (setScanFrom a (.bool true) 1 true [(1, .bool true)] 0) _ _ _
  unfold setScanFrom
  rw [if_pos (by decide)]
  unfold setEpoch
  refine wpAny_bind (wpAny_bind (wpAny_setState_of ho rfl (fits b) (wpAny_pure ?_)))
  refine wpAny_bind (eq_true' ?_)
  dsimp only
  simp only [Bool.and_self, ↓reduceIte]
  refine wpAny_pure (wpAny_pure (wpAny_pure ?_))
  show wpAny _ _ (ret Value.none) _ _ _
  exact wpAny_pure ⟨_, rfl, h _⟩
theorem slot_next : Slot "set_iterator" "__next__" "set_iterator.__next__" :=
  .of (owner := "set_iterator") (n := "__next__") (by rw [typeLookup_type, builtinLookup_eq_fast]; kernel_rfl) (by decide +kernel) (by decide +kernel) (by decide +kernel)
    (by first | exact .inl (by decide +kernel) | exact .inr (by decide +kernel)) (by rw [isSubtype_type]; kernel_rfl)
theorem entry_next : entryFor table "set_iterator.__next__" = some Builtin.«set_iterator.__next__» := entryFor_of_tree (by kernel_rfl)
theorem args_next (v : Value) : argsOk "set_iterator.__next__" ⟨[v], []⟩ := by unfold argsOk; kernel_rfl
theorem entry_iter : entryFor table "set.__iter__" = some Builtin.«frozenset.__iter__» :=
  entryFor_alias (id' := "frozenset.__iter__") (by kernel_rfl) (by first | rfl | decide +kernel) (by decide +kernel) (by kernel_rfl)
theorem args_iter (v : Value) : argsOk "set.__iter__" ⟨[v], []⟩ := by unfold argsOk; kernel_rfl
abbrev IsIt (h : Heap) (I a : Addr) (slot i : Int) : Prop := h.get? I = some { cls := .type "set_iterator", data := .fields #[rawInt slot, rawInt i, .ref a, rawInt 1, rawInt 1] }
theorem drawn_no {Q : Bool → Shared → Prop} (ho : s.heap.get? a = some (oneSet b)) (h : Q false s) : wpAny (model prog w) A (setDrawn a) Q E s := by
  unfold setDrawn setsByText
  refine wpAny_bind (wpAny_setState_of ho rfl (fits b) ?_)
  dsimp only
  refine wpAny_bind (wpAny_bind (wpAny_askSetting (wpAny_pure (wpAny_pure ?_))))
  generalize (model prog w).w.params.followText "set-order" = x
  cases x <;> exact h
theorem iter {Q : Value → Shared → Prop} (ho : s.heap.get? a = some (oneSet b))
    (h : Q (.ref s.heap.objs.size) { s with heap := s.heap.push { cls := .type "set_iterator", data := .fields #[rawInt 0, rawInt 0, .ref a, rawInt 1, rawInt 1] } }) : wpAny (model prog w) A (pyIter (.ref a)) Q E s := by
  have hT : s.TypeIs (.ref a) "set" := ⟨_, ho, rfl⟩
  refine wpAny_pyIter_slot hT F.slot_set_iter (wpAny_call_entry F.slot_set_iter hT entry_iter ?_ (args_iter _))
  unfold Builtin.«frozenset.__iter__» Builtin.Frozenset.slot0 slotArgs
  simp only [List.isEmpty_nil, Bool.not_true, Bool.false_eq_true, ↓reduceIte, bind_assoc, List.length_nil, bne_self_eq_false]
  unfold Builtin.Frozenset.addrOf Builtin.Frozenset.sizeOf
  refine wpAny_bind (wpAny_pure (wpAny_bind (wpAny_pure ?_)))
  refine wpAny_bind (wpAny_bind (wpAny_setEntries_of ho rfl (fits b) (wpAny_pure ?_)))
  refine wpAny_bind (drawn_no ho ?_)
  simp only [Bool.false_eq_true, ↓reduceIte]
  refine wpAny_bind (wpAny_pure ?_)
  unfold setEpoch
  refine wpAny_bind (wpAny_bind (wpAny_setState_of ho rfl (fits b) (wpAny_pure ?_)))
  exact wpAny_bind (wpAny_newObj_type (wpAny_pure ⟨_, rfl, "set_iterator", _, ⟨_, Heap.get?_push_size _ rfl, rfl⟩, slot_next.lookup, h⟩))
theorem next_open {I : Addr} {slot i : Int} {Q : Fin → Shared → Prop} (hi : IsIt s.heap I a slot i) (ho : s.heap.get? a = some (oneSet b))
    (h : wpAny (model prog w) A (setNext a slot.toNat i.toNat 1) (fun r s' => s' = s ∧ match r with
      | some (x, next) => ∀ h', Heap.SameBut I s.heap h' → IsIt h' I a next (i + 1) → Q (.done (.ret x)) { s with heap := h' }
      | none => wpAny (model prog w) A (do setField (.ref I) 2 .none; raiseNew (← newExc (.type "StopIteration") [])) Q E s) E s) :
    wpAny (model prog w) A (Builtin.«set_iterator.__next__» ⟨[.ref I], []⟩) Q E s := by
  unfold Builtin.«set_iterator.__next__» slotArgs
  simp only [List.isEmpty_nil, Bool.not_true, Bool.false_eq_true, ↓reduceIte, bind_assoc, List.length_nil, bne_self_eq_false]
  refine wpAny_bind (wpAny_pure ?_)
  unfold fieldsOf
  refine wpAny_bind (wpAny_bind (wpAny_load hi (wpAny_pure ?_)))
  dsimp only [rawInt]
  refine wpAny_bind (wpAny_setEntries_of ho rfl (fits b) ?_)
  rw [if_neg (by decide)]
  refine wpAny_bind (wpAny_mono h (fun r s' hr => ?_) fun _ _ e => e)
  obtain ⟨rfl, hr⟩ := hr
  match r, hr with
  | some (x, next), hr =>
    dsimp only
    refine wpAny_bind (wpAny_setField hi rfl (by simp) ?_)
    have h1 := Heap.get?_update_self (Obj.mapFields fun xs => xs.setIfInBounds 0 (rawInt next)) hi rfl
    refine wpAny_bind (wpAny_setField h1 rfl (by simp) (wpAny_pure ?_))
    exact hr _ ((Heap.SameBut.update ..).trans (Heap.SameBut.update ..)) (Heap.get?_update_self _ h1 rfl)
  | none, hr => exact hr
theorem pick_one {α : Type} (f : Nat → Nat) (x : α) : pickOrder f #[x] = #[x] := by
  show pickOrder.go f 1 0 [x] #[] = #[x]
  unfold pickOrder.go
  simp only [List.length_singleton, Nat.mod_one, List.getElem?_cons_zero]
  rfl
theorem walk {Q : Array (Int × Value) → Shared → Prop} (ht : w.params.followText "set-order" = true) (ho : s.heap.get? a = some (oneSet b)) (h : Q #[(1, .bool true)] s) : wpAny (model prog w) A (setWalk a) Q E s := by
  unfold setWalk setsByText
  refine wpAny_bind (wpAny_setState_of ho rfl (fits b) ?_)
  dsimp only
  refine wpAny_bind (wpAny_bind (wpAny_askSetting (wpAny_pure ?_)))
  rw [if_pos (show (model prog w).w.params.followText "set-order" = true from ht)]
  refine wpAny_bind (wpAny_askSetting (wpAny_pure ?_))
  rw [pick_one]
  exact h
def slotBehind (w : World) : Nat := if w.params.followText "set-order" = true then 0 else 2
theorem next1 {Q : Option (Value × Nat) → Shared → Prop} (ho : s.heap.get? a = some (oneSet (ledOf w))) (h : Q (some (.bool true, slotBehind w)) s) : wpAny (model prog w) A (setNext a 0 0 1) Q E s := by
  unfold setNext setsByText
  refine wpAny_bind (wpAny_setState_of ho rfl (fits _) ?_)
  dsimp only
  refine wpAny_bind (wpAny_bind (wpAny_askSetting (wpAny_pure ?_)))
  show wpAny _ _ (if w.params.followText "set-order" = true then _ else _) _ _ _
  cases ht : w.params.followText "set-order" with
  | true =>
    rw [if_pos rfl, if_neg (by decide)]
    refine wpAny_bind (walk ht ho (wpAny_pure ?_))
    rw [slotBehind, if_pos ht] at h
    exact h
  | false =>
    rw [if_neg (by decide), if_neg (by simp only [ledOf, ht]; decide)]
    rw [slotBehind, if_neg (by rw [ht]; decide)] at h
    simp only [ledOf, ht]
    exact wpAny_bind (wpAny_pure (wpAny_pure h))
theorem next2 {Q : Option (Value × Nat) → Shared → Prop} (ho : s.heap.get? a = some (oneSet (ledOf w))) (h : Q none s) : wpAny (model prog w) A (setNext a (slotBehind w) 1 1) Q E s := by
  unfold setNext setsByText
  refine wpAny_bind (wpAny_setState_of ho rfl (fits _) ?_)
  dsimp only
  refine wpAny_bind (wpAny_bind (wpAny_askSetting (wpAny_pure ?_)))
  show wpAny _ _ (if w.params.followText "set-order" = true then _ else _) _ _ _
  cases ht : w.params.followText "set-order" with
  | true =>
    rw [if_pos rfl, if_neg (by decide)]
    exact wpAny_bind (walk ht ho (wpAny_pure h))
  | false =>
    rw [if_neg (by decide), if_neg (by simp only [ledOf, ht]; decide)]
    have e : slotBehind w = 2 := by rw [slotBehind, if_neg (by rw [ht]; decide)]
    rw [e]
    simp only [ledOf, ht]
    exact wpAny_bind (wpAny_pure (wpAny_pure h))
theorem pyNext1 {I : Addr} {Q : Option Value → Shared → Prop} (hi : IsIt s.heap I a 0 0) (ho : s.heap.get? a = some (oneSet (ledOf w)))
    (h : ∀ h', Heap.SameBut I s.heap h' → IsIt h' I a (slotBehind w) 1 → Q (some (.bool true)) { s with heap := h' }) : wpAny (model prog w) A (pyNext (.ref I)) Q E s := by
  have hT : s.TypeIs (.ref I) "set_iterator" := ⟨_, hi, rfl⟩
  unfold pyNext
  refine wpAny_bind (wpAny_attempt (wpAny_callSpecial?_slot (name := Str.ofString "__next__") hT slot_next (wpAny_call_entry slot_next hT entry_next (next_open hi ho ?_) (args_next _))))
  refine next1 ho ⟨rfl, fun h' hs hi' => ⟨_, rfl, wpAny_pure (h h' hs hi')⟩⟩
theorem pyNext2 {I : Addr} {Q : Option Value → Shared → Prop} (hh : A.handled = none) (hi : IsIt s.heap I a (slotBehind w) 1) (ho : s.heap.get? a = some (oneSet (ledOf w)))
    (h : ∀ h', Heap.ExtBut I s.heap h' → Q none { s with heap := h' }) : wpAny (model prog w) A (pyNext (.ref I)) Q E s := by
  have hT : s.TypeIs (.ref I) "set_iterator" := ⟨_, hi, rfl⟩
  unfold pyNext
  refine wpAny_bind (wpAny_attempt (wpAny_callSpecial?_slot (name := Str.ofString "__next__") hT slot_next (wpAny_call_entry slot_next hT entry_next (next_open hi ho ?_) (args_next _))))
  refine next2 ho ⟨rfl, ?_⟩
  dsimp only
  refine wpAny_bind (wpAny_setField hi rfl (by simp) ?_)
  refine wpAny_bind ?_
  simp only [newExc, newTuple]
  refine wpAny_bind (wpAny_newObj_type ?_ (by size_fits))
  refine wpAny_bind (m := firstArgMember _ _) (wpAny_of_eq (a := Value.none) (by first | rfl | (simp only [firstArgMember]; rfl)) ?_)
  refine wpAny_newObj_type ?_ (by size_fits)
  simp only [raiseNew]
  refine wpAny_bind (wpAny_handled ?_)
  first | rw [show A.in1.handled = none from hh] | rw [hh]
  refine wpAny_bind (wpAny_pure (wpAny_throw ?_))
  refine wpAny_bind (wpAny_isInstance (T := "StopIteration") (b := true) ⟨_, Heap.get?_push_size _ rfl, rfl⟩ isSubtype_stop ?_)
  refine wpAny_pure (h _ fun c o hc e => ?_)
  exact Heap.get?_push_of_some _ (Heap.get?_push_of_some _ ((Heap.get?_update_other _ _ (Ne.symm hc)).trans e))
theorem items {Q : List Value → Shared → Prop} (hh : A.handled = none) (ho : s.heap.get? a = some (oneSet (ledOf w)))
    (h : ∀ h', Heap.ExtBut s.heap.objs.size s.heap h' → Q [.bool true] { s with heap := h' }) : wpAny (model prog w) A (unpackItems (.ref a) 1 none) Q E s := by
  have hT : s.TypeIs (.ref a) "set" := ⟨_, ho, rfl⟩
  have hlt : a ≠ s.heap.objs.size := Nat.ne_of_lt (Heap.lt_size ho)
  unfold unpackItems notIterableAtAll
  refine wpAny_bind (wpAny_bind (wpAny_specialOf hT F.slot_set_iter.lookup (wpAny_pure ?_)))
  simp only [Bool.false_eq_true, if_false]
  refine wpAny_bind (wpAny_holding (iter ho ?_))
  refine wpAny_bind (wpAny_holding ?_)
  show wpAny _ _ (pyNext (.ref s.heap.objs.size) >>= _) _ _ _
  refine wpAny_bind (pyNext1 (s := { s with heap := s.heap.push _ }) (Heap.get?_push_size _ rfl) (Heap.get?_push_of_some _ ho) fun h₁ hs₁ hi₁ => ?_)
  refine wpAny_bind (wpAny_holding (wpAny_pure (wpAny_pure ?_)))
  rw [if_neg (by simp)]
  refine wpAny_bind (wpAny_holding (pyNext2 (s := { s with heap := h₁ }) hh hi₁ (hs₁.extBut _ _ hlt (Heap.get?_push_of_some _ ho)) fun h₂ he => ?_))
  simp only [Option.isSome_none, Bool.false_eq_true, if_false]
  exact wpAny_pure (h h₂ fun c o hc e => he c o hc (hs₁.extBut c o hc (Heap.get?_push_of_some _ e)))
end
end ST
end Mine
end
section
open PySem PySem.W PySem.Calls PyProof.Rows
set_option Elab.async false
set_option maxRecDepth 100000
namespace Mine
namespace LT
open Builtin
theorem sub_list_list : isSubtype (.type "list") (.type "list") = pure true := by rw [isSubtype_type]; kernel_rfl

theorem slot_bytes_lt : Slot "bytes" (cmpInfo .Lt).2.1 "bytes.__lt__" :=
  .of (owner := "bytes") (n := "__lt__") (by rw [typeLookup_type, builtinLookup_eq_fast]; kernel_rfl) (by decide +kernel) (by decide +kernel) (by decide +kernel)
    (by first | exact .inl (by decide +kernel) | exact .inr (by decide +kernel)) (by rw [isSubtype_type]; kernel_rfl)
theorem entry_bytes_lt : entryFor table "bytes.__lt__" = some Builtin.«bytes.__lt__» := entryFor_of_tree (by kernel_rfl)
theorem args_bytes_lt (a b : Value) : argsOk "bytes.__lt__" ⟨[a, b], []⟩ := by
  unfold argsOk; rw [signature?_of (id := "bytes.__lt__") (n := ['_', '_', 't', 'l', '_', '_']) (o := ['s', 'e', 't', 'y', 'b']) (by kernel_rfl) FB.owner_bytes]; kernel_rfl
theorem gives_bytes_lt (b c : Array UInt8) (t u : Tok) : Gives («bytes.__lt__» ⟨[.bytes b t, .bytes c u], []⟩) (.val (.bool (Bytes.order b.toList c.toList == .lt))) := by
  refine .of_wp fun M A E s Q hq => ?_
  show wpAny M A (isInstance (.bytes c u) (.type "bytes") >>= fun r => _) _ E s
  refine wpAny_bind (wpAny_isInstance (typeIs_bytes s c u) F.sub_bytes_bytes ?_)
  exact wpAny_pure ⟨_, rfl, hq⟩
def ltL : List (List UInt8) → List (List UInt8) → Bool
  | [], ys => decide (0 < ys.length)
  | x :: xs, [] => decide (xs.length + 1 < 0)
  | x :: xs, y :: ys => if x = y then ltL xs ys else Bytes.order x y == .lt
section
variable {prog : Program} {w : World} {A : Around} {E : Value → Shared → Prop} {s : Shared}
theorem rc_bytes_lt {b c : Array UInt8} {t u : Tok} {Q : Value → Shared → Prop} (h : Q (.bool (Bytes.order b.toList c.toList == .lt)) s) : wpAny (model prog w) A (richCompare .Lt (.bytes b t) (.bytes c u)) Q E s :=
  richCompare_gives (op := .Lt) (typeIs_bytes s b t) (typeIs_bytes s c u) slot_bytes_lt entry_bytes_lt (args_bytes_lt _ _) (gives_bytes_lt b c t u) (fun e => nomatch e) h
end
theorem lt_loop {a b : Addr} {vs ws : List Value} {bs cs : List (List UInt8)} (hv : BM.BAre vs bs) (hw : BM.BAre ws cs) : ∀ (k i : Nat), vs.length - i = k → i ≤ vs.length → i ≤ ws.length →
    Meets (Builtin.«list.__eq__.loop» ⟨[.ref a, .ref b, rawInt i, rawInt 0], []⟩) (fun _ R s => s.heap.IsList a vs.toArray ∧ s.heap.IsList b ws.toArray ∧ R (.ok (.ret (.bool (ltL (bs.drop i) (cs.drop i))))) s) := by
  intro k
  induction k with
  | zero =>
    intro i hk h1 h2 prog w A R s ⟨ha, hb, h⟩
    obtain ⟨oa, hoa, _, na, hda⟩ := ha
    obtain ⟨ob, hob, _, nb, hdb⟩ := hb
    have hi : i = vs.length := by omega
    have e1 : vs.toArray[i]? = none := by simp [hi]
    have l1 := hv.length
    have l2 := hw.length
    have hd : bs.drop i = [] := List.drop_eq_nil_of_le (by omega)
    rw [hd] at h
    show wpAny _ _ (Builtin.List.listItems (.ref a) >>= fun xs => Builtin.List.listItems (.ref b) >>= _) _ _ s
    refine wpAny_bind (listItems_at hoa hda (wpAny_bind (listItems_at hob hdb ?_)))
    simp only [rawInt, Int.toNat_natCast, e1]
    refine wpAny_bind (listItems_at hoa hda (wpAny_bind (listItems_at hob hdb (wpAny_pure ?_))))
    show R (.ok (.ret (.bool (decide (vs.toArray.size < ws.toArray.size))))) s
    have e2 : decide (vs.toArray.size < ws.toArray.size) = ltL [] (cs.drop i) := by
      simp only [ltL, List.size_toArray, List.length_drop]
      rw [decide_eq_decide]
      omega
    rw [e2]
    exact h
  | succ k ih =>
    intro i hk h1 h2 prog w A R s ⟨ha, hb, h⟩
    obtain ⟨oa, hoa, ca, na, hda⟩ := id ha
    obtain ⟨ob, hob, cb, nb, hdb⟩ := id hb
    have l1 := hv.length
    have l2 := hw.length
    have hi : i < vs.length := by omega
    have hib : i < bs.length := by omega
    obtain ⟨t0, ht0⟩ := hv.get i bs[i] (by simp [hib])
    have e1 : vs.toArray[i]? = some (.bytes (bs[i]).toArray t0) := by simpa using ht0
    rw [List.drop_eq_getElem_cons hib] at h
    show wpAny _ _ (Builtin.List.listItems (.ref a) >>= fun xs => Builtin.List.listItems (.ref b) >>= _) _ _ s
    refine wpAny_bind (listItems_at hoa hda (wpAny_bind (listItems_at hob hdb ?_)))
    by_cases hj : i < ws.length
    · have hjc : i < cs.length := by omega
      obtain ⟨u0, hu0⟩ := hw.get i cs[i] (by simp [hjc])
      have e2 : ws.toArray[i]? = some (.bytes (cs[i]).toArray u0) := by simpa using hu0
      rw [List.drop_eq_getElem_cons hjc] at h
      simp only [rawInt, Int.toNat_natCast, e1, e2]
      refine wpAny_bind (eqBool_bytes ?_)
      by_cases hq : bs[i] = cs[i]
      · rw [show decide ((bs[i]).toArray.toList = (cs[i]).toArray.toList) = true by simp [hq]]
        simp only [ltL, hq, if_true] at h
        simp only [if_true]
        refine wpAny_bind (wpAny_pure (wpAny_pure ⟨plainId_quiet MeetsSeq3.plain_eq_loop _, codeAny_builtin MeetsSeq3.entry_eq_loop ?_⟩))
        rw [Around.under_plainId MeetsSeq3.plain_eq_loop _]
        exact ih (i + 1) (by omega) (by omega) (by omega) prog w A R s ⟨ha, hb, h⟩
      · rw [show decide ((bs[i]).toArray.toList = (cs[i]).toArray.toList) = false by simp [hq]]
        simp only [ltL, hq, if_false] at h
        simp only [Bool.false_eq_true, if_false]
        refine wpAny_bind (listItems_at hoa hda (wpAny_bind (listItems_at hob hdb ?_)))
        simp only [e1, e2]
        refine wpAny_bind (rc_bytes_lt (wpAny_pure ?_))
        exact h
    · have hic : i = ws.length := by omega
      have e2 : ws.toArray[i]? = none := by simp [hic]
      rw [show cs.drop i = [] from List.drop_eq_nil_of_le (by omega)] at h
      simp only [rawInt, Int.toNat_natCast, e1, e2]
      refine wpAny_bind (listItems_at hoa hda (wpAny_bind (listItems_at hob hdb (wpAny_pure ?_))))
      show R (.ok (.ret (.bool (decide (vs.toArray.size < ws.toArray.size))))) s
      have e3 : decide (vs.toArray.size < ws.toArray.size) = ltL (bs[i] :: bs.drop (i + 1)) [] := by
        simp only [ltL, List.size_toArray, List.length_drop]
        rw [decide_eq_decide]
        omega
      rw [e3]
      exact h
theorem lt_meets {a b : Addr} {vs ws : List Value} {bs cs : List (List UInt8)} (hv : BM.BAre vs bs) (hw : BM.BAre ws cs) :
    Meets (Builtin.«list.__lt__» ⟨[.ref a, .ref b], []⟩) (fun _ R s => s.heap.IsList a vs.toArray ∧ s.heap.IsList b ws.toArray ∧ R (.ok (.ret (.bool (ltL bs cs)))) s) := by
  intro prog w A R s ⟨ha, hb, h⟩
  show wpAny _ _ (isInstance (.ref b) (.type "list") >>= _) _ _ s
  refine wpAny_bind (wpAny_isInstance hb.typeIs sub_list_list ?_)
  refine wpAny_pure ⟨plainId_quiet MeetsSeq3.plain_eq_loop _, codeAny_builtin MeetsSeq3.entry_eq_loop ?_⟩
  rw [Around.under_plainId MeetsSeq3.plain_eq_loop _]
  exact lt_loop hv hw _ 0 rfl (Nat.zero_le _) (Nat.zero_le _) prog w A R s ⟨ha, hb, h⟩
section
variable {prog : Program} {w : World} {A : Around} {E : Value → Shared → Prop} {s : Shared}
theorem rc_list_lt {a b : Addr} {vs ws : List Value} {bs cs : List (List UInt8)} (hv : BM.BAre vs bs) (hw : BM.BAre ws cs) (hu : A.units < cLine) (ha : s.heap.IsList a vs.toArray) (hb : s.heap.IsList b ws.toArray) {Q : Value → Shared → Prop}
    (h : Q (.bool (ltL bs cs)) s) : wpAny (model prog w) A (richCompare .Lt (.ref a) (.ref b)) Q E s :=
  wpAny_richCompare_same_room ha.typeIs hb.typeIs PySem.F.slot_list_lt (call_meets PySem.F.slot_list_lt ha.typeIs PySem.F.entry_list_lt (PySem.F.args_list_lt_2 _ _) (lt_meets hv hw) ⟨ha, hb, ⟨(fun e => nomatch e), h⟩⟩) hu
end

theorem slot_bytes_gt : Slot "bytes" (cmpInfo .Gt).2.1 "bytes.__gt__" :=
  .of (owner := "bytes") (n := "__gt__") (by rw [typeLookup_type, builtinLookup_eq_fast]; kernel_rfl) (by decide +kernel) (by decide +kernel) (by decide +kernel)
    (by first | exact .inl (by decide +kernel) | exact .inr (by decide +kernel)) (by rw [isSubtype_type]; kernel_rfl)
theorem entry_bytes_gt : entryFor table "bytes.__gt__" = some Builtin.«bytes.__gt__» := entryFor_of_tree (by kernel_rfl)
theorem args_bytes_gt (a b : Value) : argsOk "bytes.__gt__" ⟨[a, b], []⟩ := by
  unfold argsOk; rw [signature?_of (id := "bytes.__gt__") (n := ['_', '_', 't', 'g', '_', '_']) (o := ['s', 'e', 't', 'y', 'b']) (by kernel_rfl) FB.owner_bytes]; kernel_rfl
theorem gives_bytes_gt (b c : Array UInt8) (t u : Tok) : Gives («bytes.__gt__» ⟨[.bytes b t, .bytes c u], []⟩) (.val (.bool (Bytes.order b.toList c.toList == .gt))) := by
  refine .of_wp fun M A E s Q hq => ?_
  show wpAny M A (isInstance (.bytes c u) (.type "bytes") >>= fun r => _) _ E s
  refine wpAny_bind (wpAny_isInstance (typeIs_bytes s c u) F.sub_bytes_bytes ?_)
  exact wpAny_pure ⟨_, rfl, hq⟩
def gtL : List (List UInt8) → List (List UInt8) → Bool
  | [], ys => decide (0 > ys.length)
  | x :: xs, [] => decide (xs.length + 1 > 0)
  | x :: xs, y :: ys => if x = y then gtL xs ys else Bytes.order x y == .gt
section
variable {prog : Program} {w : World} {A : Around} {E : Value → Shared → Prop} {s : Shared}
theorem rc_bytes_gt {b c : Array UInt8} {t u : Tok} {Q : Value → Shared → Prop} (h : Q (.bool (Bytes.order b.toList c.toList == .gt)) s) : wpAny (model prog w) A (richCompare .Gt (.bytes b t) (.bytes c u)) Q E s :=
  richCompare_gives (op := .Gt) (typeIs_bytes s b t) (typeIs_bytes s c u) slot_bytes_gt entry_bytes_gt (args_bytes_gt _ _) (gives_bytes_gt b c t u) (fun e => nomatch e) h
end
theorem gt_loop {a b : Addr} {vs ws : List Value} {bs cs : List (List UInt8)} (hv : BM.BAre vs bs) (hw : BM.BAre ws cs) : ∀ (k i : Nat), vs.length - i = k → i ≤ vs.length → i ≤ ws.length →
    Meets (Builtin.«list.__eq__.loop» ⟨[.ref a, .ref b, rawInt i, rawInt 4], []⟩) (fun _ R s => s.heap.IsList a vs.toArray ∧ s.heap.IsList b ws.toArray ∧ R (.ok (.ret (.bool (gtL (bs.drop i) (cs.drop i))))) s) := by
  intro k
  induction k with
  | zero =>
    intro i hk h1 h2 prog w A R s ⟨ha, hb, h⟩
    obtain ⟨oa, hoa, _, na, hda⟩ := ha
    obtain ⟨ob, hob, _, nb, hdb⟩ := hb
    have hi : i = vs.length := by omega
    have e1 : vs.toArray[i]? = none := by simp [hi]
    have l1 := hv.length
    have l2 := hw.length
    have hd : bs.drop i = [] := List.drop_eq_nil_of_le (by omega)
    rw [hd] at h
    show wpAny _ _ (Builtin.List.listItems (.ref a) >>= fun xs => Builtin.List.listItems (.ref b) >>= _) _ _ s
    refine wpAny_bind (listItems_at hoa hda (wpAny_bind (listItems_at hob hdb ?_)))
    simp only [rawInt, Int.toNat_natCast, e1]
    refine wpAny_bind (listItems_at hoa hda (wpAny_bind (listItems_at hob hdb (wpAny_pure ?_))))
    show R (.ok (.ret (.bool (decide (vs.toArray.size > ws.toArray.size))))) s
    have e2 : decide (vs.toArray.size > ws.toArray.size) = gtL [] (cs.drop i) := by
      simp only [gtL, List.size_toArray, List.length_drop]
      rw [decide_eq_decide]
      omega
    rw [e2]
    exact h
  | succ k ih =>
    intro i hk h1 h2 prog w A R s ⟨ha, hb, h⟩
    obtain ⟨oa, hoa, ca, na, hda⟩ := id ha
    obtain ⟨ob, hob, cb, nb, hdb⟩ := id hb
    have l1 := hv.length
    have l2 := hw.length
    have hi : i < vs.length := by omega
    have hib : i < bs.length := by omega
    obtain ⟨t0, ht0⟩ := hv.get i bs[i] (by simp [hib])
    have e1 : vs.toArray[i]? = some (.bytes (bs[i]).toArray t0) := by simpa using ht0
    rw [List.drop_eq_getElem_cons hib] at h
    show wpAny _ _ (Builtin.List.listItems (.ref a) >>= fun xs => Builtin.List.listItems (.ref b) >>= _) _ _ s
    refine wpAny_bind (listItems_at hoa hda (wpAny_bind (listItems_at hob hdb ?_)))
    by_cases hj : i < ws.length
    · have hjc : i < cs.length := by omega
      obtain ⟨u0, hu0⟩ := hw.get i cs[i] (by simp [hjc])
      have e2 : ws.toArray[i]? = some (.bytes (cs[i]).toArray u0) := by simpa using hu0
      rw [List.drop_eq_getElem_cons hjc] at h
      simp only [rawInt, Int.toNat_natCast, e1, e2]
      refine wpAny_bind (eqBool_bytes ?_)
      by_cases hq : bs[i] = cs[i]
      · rw [show decide ((bs[i]).toArray.toList = (cs[i]).toArray.toList) = true by simp [hq]]
        simp only [gtL, hq, if_true] at h
        simp only [if_true]
        refine wpAny_bind (wpAny_pure (wpAny_pure ⟨plainId_quiet MeetsSeq3.plain_eq_loop _, codeAny_builtin MeetsSeq3.entry_eq_loop ?_⟩))
        rw [Around.under_plainId MeetsSeq3.plain_eq_loop _]
        exact ih (i + 1) (by omega) (by omega) (by omega) prog w A R s ⟨ha, hb, h⟩
      · rw [show decide ((bs[i]).toArray.toList = (cs[i]).toArray.toList) = false by simp [hq]]
        simp only [gtL, hq, if_false] at h
        simp only [Bool.false_eq_true, if_false]
        refine wpAny_bind (listItems_at hoa hda (wpAny_bind (listItems_at hob hdb ?_)))
        simp only [e1, e2]
        refine wpAny_bind (rc_bytes_gt (wpAny_pure ?_))
        exact h
    · have hic : i = ws.length := by omega
      have e2 : ws.toArray[i]? = none := by simp [hic]
      rw [show cs.drop i = [] from List.drop_eq_nil_of_le (by omega)] at h
      simp only [rawInt, Int.toNat_natCast, e1, e2]
      refine wpAny_bind (listItems_at hoa hda (wpAny_bind (listItems_at hob hdb (wpAny_pure ?_))))
      show R (.ok (.ret (.bool (decide (vs.toArray.size > ws.toArray.size))))) s
      have e3 : decide (vs.toArray.size > ws.toArray.size) = gtL (bs[i] :: bs.drop (i + 1)) [] := by
        simp only [gtL, List.size_toArray, List.length_drop]
        rw [decide_eq_decide]
        omega
      rw [e3]
      exact h
theorem gt_meets {a b : Addr} {vs ws : List Value} {bs cs : List (List UInt8)} (hv : BM.BAre vs bs) (hw : BM.BAre ws cs) :
    Meets (Builtin.«list.__gt__» ⟨[.ref a, .ref b], []⟩) (fun _ R s => s.heap.IsList a vs.toArray ∧ s.heap.IsList b ws.toArray ∧ R (.ok (.ret (.bool (gtL bs cs)))) s) := by
  intro prog w A R s ⟨ha, hb, h⟩
  show wpAny _ _ (isInstance (.ref b) (.type "list") >>= _) _ _ s
  refine wpAny_bind (wpAny_isInstance hb.typeIs sub_list_list ?_)
  refine wpAny_pure ⟨plainId_quiet MeetsSeq3.plain_eq_loop _, codeAny_builtin MeetsSeq3.entry_eq_loop ?_⟩
  rw [Around.under_plainId MeetsSeq3.plain_eq_loop _]
  exact gt_loop hv hw _ 0 rfl (Nat.zero_le _) (Nat.zero_le _) prog w A R s ⟨ha, hb, h⟩
section
variable {prog : Program} {w : World} {A : Around} {E : Value → Shared → Prop} {s : Shared}
theorem rc_list_gt {a b : Addr} {vs ws : List Value} {bs cs : List (List UInt8)} (hv : BM.BAre vs bs) (hw : BM.BAre ws cs) (hu : A.units < cLine) (ha : s.heap.IsList a vs.toArray) (hb : s.heap.IsList b ws.toArray) {Q : Value → Shared → Prop}
    (h : Q (.bool (gtL bs cs)) s) : wpAny (model prog w) A (richCompare .Gt (.ref a) (.ref b)) Q E s :=
  wpAny_richCompare_same_room ha.typeIs hb.typeIs PySem.F.slot_list_gt (call_meets PySem.F.slot_list_gt ha.typeIs PySem.F.entry_list_gt (PySem.F.args_list_gt_2 _ _) (gt_meets hv hw) ⟨ha, hb, ⟨(fun e => nomatch e), h⟩⟩) hu
end

section
variable {prog : Program} {w : World} {A : Around} {I : Addr} {fp : List Addr} {n : Nat} {P : Nat → Value → Prop} {St : Nat → Heap → Prop} {bt : Nat → Nat → Bool}
theorem min_go (W : Walks prog w A.in1 I fp [I] n P St)
    (cmp : ∀ k i j vi vj (s : Shared) (Q E : Value → Shared → Prop), St k s.heap → P i vi → P j vj → Q (.bool (bt i j)) s → wpAny (model prog w) A.in1 (richCompare .Lt vi vj) Q E s) {S : Addr} (hS : S ∉ fp) {R : Result → Shared → Prop} :
    ∀ (k j : Nat) (s : Shared) (xs : Array Value) (c : Nat), n - j = k → j ≤ n → 0 < n → St j s.heap → s.heap.get? S = some { cls := .type "list", dict := none, data := .seq xs c, slots := #[] } →
      ((j = 0 ∧ xs = #[]) ∨ ∃ i vb, j = i + 1 ∧ xs = #[vb, vb] ∧ P (argBest bt i) vb) →
      (∀ v h' tk, P (argBest bt (n - 1)) v → (∀ b o, b ∉ [I] → b ≠ S → s.heap.get? b = some o → h'.get? b = some o) → R (.ok (.ret v)) { s with heap := h', toks := tk }) →
      codeAny (model prog w) A (.builtin "min.loop" ⟨[.ref I, .none, .ref S], []⟩) R s := by
  have hw : ∀ x ∈ fp, x ≠ S := fun x hx e => hS (e ▸ hx)
  have hSI : S ∉ [I] := fun hm => hS (W.sub _ hm)
  have nm : (toString "min" ++ toString ".loop" : String) = "min.loop" := by decide
  intro k
  induction k with
  | zero =>
    intro j s xs c hk hj h0 st hs hx hR
    obtain rfl : j = n := by omega
    rcases hx with ⟨rfl, _⟩ | ⟨i, vb, rfl, rfl, hP⟩
    · exact absurd h0 (Nat.lt_irrefl 0)
    refine codeAny_builtin PySem.F.entry_min_loop ?_
    rw [Around.under_plainId PySem.F.plain_min_loop _]
    show wpAny _ A.in1 (seqItems? (.ref S) >>= _) _ _ s
    refine wpAny_bind (wpAny_seqItems hs rfl ?_)
    show wpAny _ A.in1 (tryCatch (pyNext (.ref I)) _ >>= _) _ _ s
    refine wpAny_bind (wpAny_tryCatch (W.done s _ _ st fun h1 tk1 k1 => ?_))
    show wpAny _ A.in1 (updateSeq S (fun _ => #[]) >>= _) _ _ _
    refine wpAny_bind (wpAny_updateSeq (k1 S _ hSI hs) rfl (wpAny_bind (wpAny_letGo (wpAny_pure ?_))))
    exact hR vb _ tk1 hP fun b o hb hbS e => (Heap.get?_update_other _ _ (Ne.symm hbS)).trans (k1 b o hb e)
  | succ k ih =>
    intro j s xs c hk hj h0 st hs hx hR
    have hlt : j < n := by omega
    refine codeAny_builtin PySem.F.entry_min_loop ?_
    rw [Around.under_plainId PySem.F.plain_min_loop _]
    show wpAny _ A.in1 (seqItems? (.ref S) >>= _) _ _ s
    refine wpAny_bind (wpAny_seqItems hs rfl ?_)
    show wpAny _ A.in1 (tryCatch (pyNext (.ref I)) _ >>= _) _ _ s
    refine wpAny_bind (wpAny_tryCatch (W.item j s _ _ hlt st fun v h1 tk1 hP st1 k1 => ?_))
    have hs1 := k1 S _ hSI hs
    have upd : ∀ f : Array Value → Array Value, St (j + 1) (h1.update S (Obj.mapSeq f)) := fun f => W.frame _ _ _ st1 fun b hb o e => (Heap.get?_update_other _ _ (Ne.symm (hw b hb))).trans e
    rcases hx with ⟨rfl, rfl⟩ | ⟨i, vb, rfl, rfl, hPb⟩
    · show wpAny _ A.in1 (updateSeq S (fun _ => #[v, v]) >>= _) _ _ _
      refine wpAny_bind (wpAny_updateSeq hs1 rfl ?_)
      rw [nm]
      refine wpAny_pure ⟨plainId_quiet PySem.F.plain_min_loop _, ih 1 _ _ _ (by omega) hlt h0 (upd _) (Heap.get?_update_self _ hs1 rfl) (.inr ⟨0, v, rfl, rfl, hP⟩) fun v' h2 tk2 hP2 k2 => ?_⟩
      exact hR v' h2 tk2 hP2 fun b o hb hbS e => k2 b o hb hbS ((Heap.get?_update_other _ _ (Ne.symm hbS)).trans (k1 b o hb e))
    · show wpAny _ A.in1 (tryCatch (holding [v, v] (richCompare .Lt v vb >>= _)) _ >>= _) _ _ _
      refine wpAny_bind (wpAny_tryCatch (wpAny_holding (wpAny_bind (cmp _ (i + 1) (argBest bt i) v vb _ _ _ st1 hP hPb (wpAny_bind (wpAny_holding (wpAny_truthy_bool (wpAny_bind (wpAny_letGo (wpAny_pure ?_))))))))))
      have hb : argBest bt (i + 1) = if bt (i + 1) (argBest bt i) then i + 1 else argBest bt i := rfl
      by_cases hq : bt (i + 1) (argBest bt i) = true
      · rw [if_pos hq] at hb ⊢
        refine wpAny_bind (wpAny_updateSeq hs1 rfl (wpAny_bind (wpAny_letGo ?_)))
        rw [nm]
        refine wpAny_pure ⟨plainId_quiet PySem.F.plain_min_loop _, ih (i + 2) _ _ _ (by omega) hlt h0 (upd _) (Heap.get?_update_self _ hs1 rfl) (.inr ⟨i + 1, v, rfl, rfl, by rw [hb]; exact hP⟩) fun v' h2 tk2 hP2 k2 => ?_⟩
        exact hR v' h2 tk2 hP2 fun b o hb hbS e => k2 b o hb hbS ((Heap.get?_update_other _ _ (Ne.symm hbS)).trans (k1 b o hb e))
      · rw [if_neg hq] at hb ⊢
        refine wpAny_bind (wpAny_letGo ?_)
        rw [nm]
        refine wpAny_pure ⟨plainId_quiet PySem.F.plain_min_loop _, ih (i + 2) _ _ _ (by omega) hlt h0 st1 hs1 (.inr ⟨i + 1, vb, rfl, rfl, by rw [hb]; exact hPb⟩) fun v' h2 tk2 hP2 k2 => ?_⟩
        exact hR v' h2 tk2 hP2 fun b o hb hbS e => k2 b o hb hbS (k1 b o hb e)
end
section
variable {prog : Program} {w : World} {A : Around} {E : Value → Shared → Prop} {s : Shared}
theorem min_call {x : Value} {bt : Nat → Nat → Bool} {Q : Value → Shared → Prop}
    (h : wpAny (model prog w) A.in1 (pyIter x) (fun it s₂ => ∃ I fp n P St, it = .ref I ∧ Walks prog w A.in1 I fp [I] n P St ∧ St 0 s₂.heap ∧ (∀ b ∈ fp, b < s₂.heap.objs.size) ∧ 0 < n ∧
      (∀ k i j vi vj (s : Shared) (Q E : Value → Shared → Prop), St k s.heap → P i vi → P j vj → Q (.bool (bt i j)) s → wpAny (model prog w) A.in1 (richCompare .Lt vi vj) Q E s) ∧
      ∀ v h' tk, P (argBest bt (n - 1)) v → (∀ b o, b ∉ [I] → s₂.heap.get? b = some o → h'.get? b = some o) → Q v { s₂ with heap := h', toks := tk }) E s) :
    wpAny (model prog w) A (call (.builtin "min") [x]) Q E s := by
  have nm : (toString "min" ++ toString ".loop" : String) = "min.loop" := by decide
  refine call_function_tree PySem.F.kind_min PySem.F.plain_min PySem.F.entry_min (PySem.F.args_min1 _) ?_
  show wpAny _ A.in1 (Builtin.Builtins.bindParams "min" ["key", "default"] 0 ⟨[], []⟩ >>= _) _ _ s
  refine wpAny_bind (wpAny_of_eq (show Builtin.Builtins.bindParams "min" ["key", "default"] 0 ⟨[], []⟩ = pure [none, none] from rfl) ?_)
  refine wpAny_bind (wpAny_pure ?_)
  refine wpAny_bind (wpAny_mono h (fun it s₂ h₂ => ?_) fun _ _ e => e)
  obtain ⟨I, fp, n, P, St, rfl, W, st, hfp, hn, cmp, hQ⟩ := h₂
  refine wpAny_bind (wpAny_newObj_type ?_)
  rw [nm]
  refine wpAny_pure ⟨plainId_quiet PySem.F.plain_min_loop _, min_go W cmp (S := s₂.heap.objs.size) (fun hm => Nat.lt_irrefl _ (hfp _ hm)) n 0 _ _ _ rfl (Nat.zero_le _) hn
    (W.frame _ _ _ st fun b _ o e => Heap.get?_push_of_some _ e) (Heap.get?_push_size _ rfl) (.inl ⟨rfl, rfl⟩) fun v h' tk hP k => ?_⟩
  exact hQ v h' tk hP fun b o hb e => k b o hb (Nat.ne_of_lt (Heap.lt_size e)) (Heap.get?_push_of_some _ e)
end

section
variable {prog : Program} {w : World} {A : Around} {I : Addr} {fp : List Addr} {n : Nat} {P : Nat → Value → Prop} {St : Nat → Heap → Prop} {bt : Nat → Nat → Bool}
theorem max_go (W : Walks prog w A.in1 I fp [I] n P St)
    (cmp : ∀ k i j vi vj (s : Shared) (Q E : Value → Shared → Prop), St k s.heap → P i vi → P j vj → Q (.bool (bt i j)) s → wpAny (model prog w) A.in1 (richCompare .Gt vi vj) Q E s) {S : Addr} (hS : S ∉ fp) {R : Result → Shared → Prop} :
    ∀ (k j : Nat) (s : Shared) (xs : Array Value) (c : Nat), n - j = k → j ≤ n → 0 < n → St j s.heap → s.heap.get? S = some { cls := .type "list", dict := none, data := .seq xs c, slots := #[] } →
      ((j = 0 ∧ xs = #[]) ∨ ∃ i vb, j = i + 1 ∧ xs = #[vb, vb] ∧ P (argBest bt i) vb) →
      (∀ v h' tk, P (argBest bt (n - 1)) v → (∀ b o, b ∉ [I] → b ≠ S → s.heap.get? b = some o → h'.get? b = some o) → R (.ok (.ret v)) { s with heap := h', toks := tk }) →
      codeAny (model prog w) A (.builtin "max.loop" ⟨[.ref I, .none, .ref S], []⟩) R s := by
  have hw : ∀ x ∈ fp, x ≠ S := fun x hx e => hS (e ▸ hx)
  have hSI : S ∉ [I] := fun hm => hS (W.sub _ hm)
  have nm : (toString "max" ++ toString ".loop" : String) = "max.loop" := by decide
  intro k
  induction k with
  | zero =>
    intro j s xs c hk hj h0 st hs hx hR
    obtain rfl : j = n := by omega
    rcases hx with ⟨rfl, _⟩ | ⟨i, vb, rfl, rfl, hP⟩
    · exact absurd h0 (Nat.lt_irrefl 0)
    refine codeAny_builtin PySem.F.entry_max_loop ?_
    rw [Around.under_plainId PySem.F.plain_max_loop _]
    show wpAny _ A.in1 (seqItems? (.ref S) >>= _) _ _ s
    refine wpAny_bind (wpAny_seqItems hs rfl ?_)
    show wpAny _ A.in1 (tryCatch (pyNext (.ref I)) _ >>= _) _ _ s
    refine wpAny_bind (wpAny_tryCatch (W.done s _ _ st fun h1 tk1 k1 => ?_))
    show wpAny _ A.in1 (updateSeq S (fun _ => #[]) >>= _) _ _ _
    refine wpAny_bind (wpAny_updateSeq (k1 S _ hSI hs) rfl (wpAny_bind (wpAny_letGo (wpAny_pure ?_))))
    exact hR vb _ tk1 hP fun b o hb hbS e => (Heap.get?_update_other _ _ (Ne.symm hbS)).trans (k1 b o hb e)
  | succ k ih =>
    intro j s xs c hk hj h0 st hs hx hR
    have hlt : j < n := by omega
    refine codeAny_builtin PySem.F.entry_max_loop ?_
    rw [Around.under_plainId PySem.F.plain_max_loop _]
    show wpAny _ A.in1 (seqItems? (.ref S) >>= _) _ _ s
    refine wpAny_bind (wpAny_seqItems hs rfl ?_)
    show wpAny _ A.in1 (tryCatch (pyNext (.ref I)) _ >>= _) _ _ s
    refine wpAny_bind (wpAny_tryCatch (W.item j s _ _ hlt st fun v h1 tk1 hP st1 k1 => ?_))
    have hs1 := k1 S _ hSI hs
    have upd : ∀ f : Array Value → Array Value, St (j + 1) (h1.update S (Obj.mapSeq f)) := fun f => W.frame _ _ _ st1 fun b hb o e => (Heap.get?_update_other _ _ (Ne.symm (hw b hb))).trans e
    rcases hx with ⟨rfl, rfl⟩ | ⟨i, vb, rfl, rfl, hPb⟩
    · show wpAny _ A.in1 (updateSeq S (fun _ => #[v, v]) >>= _) _ _ _
      refine wpAny_bind (wpAny_updateSeq hs1 rfl ?_)
      rw [nm]
      refine wpAny_pure ⟨plainId_quiet PySem.F.plain_max_loop _, ih 1 _ _ _ (by omega) hlt h0 (upd _) (Heap.get?_update_self _ hs1 rfl) (.inr ⟨0, v, rfl, rfl, hP⟩) fun v' h2 tk2 hP2 k2 => ?_⟩
      exact hR v' h2 tk2 hP2 fun b o hb hbS e => k2 b o hb hbS ((Heap.get?_update_other _ _ (Ne.symm hbS)).trans (k1 b o hb e))
    · show wpAny _ A.in1 (tryCatch (holding [v, v] (richCompare .Gt v vb >>= _)) _ >>= _) _ _ _
      refine wpAny_bind (wpAny_tryCatch (wpAny_holding (wpAny_bind (cmp _ (i + 1) (argBest bt i) v vb _ _ _ st1 hP hPb (wpAny_bind (wpAny_holding (wpAny_truthy_bool (wpAny_bind (wpAny_letGo (wpAny_pure ?_))))))))))
      have hb : argBest bt (i + 1) = if bt (i + 1) (argBest bt i) then i + 1 else argBest bt i := rfl
      by_cases hq : bt (i + 1) (argBest bt i) = true
      · rw [if_pos hq] at hb ⊢
        refine wpAny_bind (wpAny_updateSeq hs1 rfl (wpAny_bind (wpAny_letGo ?_)))
        rw [nm]
        refine wpAny_pure ⟨plainId_quiet PySem.F.plain_max_loop _, ih (i + 2) _ _ _ (by omega) hlt h0 (upd _) (Heap.get?_update_self _ hs1 rfl) (.inr ⟨i + 1, v, rfl, rfl, by rw [hb]; exact hP⟩) fun v' h2 tk2 hP2 k2 => ?_⟩
        exact hR v' h2 tk2 hP2 fun b o hb hbS e => k2 b o hb hbS ((Heap.get?_update_other _ _ (Ne.symm hbS)).trans (k1 b o hb e))
      · rw [if_neg hq] at hb ⊢
        refine wpAny_bind (wpAny_letGo ?_)
        rw [nm]
        refine wpAny_pure ⟨plainId_quiet PySem.F.plain_max_loop _, ih (i + 2) _ _ _ (by omega) hlt h0 st1 hs1 (.inr ⟨i + 1, vb, rfl, rfl, by rw [hb]; exact hPb⟩) fun v' h2 tk2 hP2 k2 => ?_⟩
        exact hR v' h2 tk2 hP2 fun b o hb hbS e => k2 b o hb hbS (k1 b o hb e)
end
section
variable {prog : Program} {w : World} {A : Around} {E : Value → Shared → Prop} {s : Shared}
theorem max_call {x : Value} {bt : Nat → Nat → Bool} {Q : Value → Shared → Prop}
    (h : wpAny (model prog w) A.in1 (pyIter x) (fun it s₂ => ∃ I fp n P St, it = .ref I ∧ Walks prog w A.in1 I fp [I] n P St ∧ St 0 s₂.heap ∧ (∀ b ∈ fp, b < s₂.heap.objs.size) ∧ 0 < n ∧
      (∀ k i j vi vj (s : Shared) (Q E : Value → Shared → Prop), St k s.heap → P i vi → P j vj → Q (.bool (bt i j)) s → wpAny (model prog w) A.in1 (richCompare .Gt vi vj) Q E s) ∧
      ∀ v h' tk, P (argBest bt (n - 1)) v → (∀ b o, b ∉ [I] → s₂.heap.get? b = some o → h'.get? b = some o) → Q v { s₂ with heap := h', toks := tk }) E s) :
    wpAny (model prog w) A (call (.builtin "max") [x]) Q E s := by
  have nm : (toString "max" ++ toString ".loop" : String) = "max.loop" := by decide
  refine call_function_tree PySem.F.kind_max PySem.F.plain_max PySem.F.entry_max (PySem.F.args_max1 _) ?_
  show wpAny _ A.in1 (Builtin.Builtins.bindParams "max" ["key", "default"] 0 ⟨[], []⟩ >>= _) _ _ s
  refine wpAny_bind (wpAny_of_eq (show Builtin.Builtins.bindParams "max" ["key", "default"] 0 ⟨[], []⟩ = pure [none, none] from rfl) ?_)
  refine wpAny_bind (wpAny_pure ?_)
  refine wpAny_bind (wpAny_mono h (fun it s₂ h₂ => ?_) fun _ _ e => e)
  obtain ⟨I, fp, n, P, St, rfl, W, st, hfp, hn, cmp, hQ⟩ := h₂
  refine wpAny_bind (wpAny_newObj_type ?_)
  rw [nm]
  refine wpAny_pure ⟨plainId_quiet PySem.F.plain_max_loop _, max_go W cmp (S := s₂.heap.objs.size) (fun hm => Nat.lt_irrefl _ (hfp _ hm)) n 0 _ _ _ rfl (Nat.zero_le _) hn
    (W.frame _ _ _ st fun b _ o e => Heap.get?_push_of_some _ e) (Heap.get?_push_size _ rfl) (.inl ⟨rfl, rfl⟩) fun v h' tk hP k => ?_⟩
  exact hQ v h' tk hP fun b o hb e => k b o hb (Nat.ne_of_lt (Heap.lt_size e)) (Heap.get?_push_of_some _ e)
end

end LT
end Mine
end
section
open PySem PySem.W PySem.Calls PyProof.Rows
set_option Elab.async false
set_option maxRecDepth 100000
namespace Mine
namespace CT
abbrev tupO (its : Array Value) : Obj := { cls := .type "tuple", data := .seq its }
section
variable {prog : Program} {w : World} {A : Around} {E : Value → Shared → Prop} {s : Shared} {h₀ : Heap} {L : Addr} {m : Str → Option Value} {env : Env}
/-- a try whose body raises nothing -/
theorem try_quiet {body orelse : List Stmt} {hd : ExceptHandler} {hs : List ExceptHandler} {pos : Pos} {Q : Flow → Shared → Prop}
    (h : wpAny (model prog w) A (execs body env) (fun f s₁ => match f with | .next => wpAny (model prog w) A (execs orelse env) Q E s₁ | f => Q f s₁) (fun _ _ => False) s) :
    wpAny (model prog w) A (exec (.Try body (hd :: hs) orelse [] pos) env) Q E s :=
  wpAny_Try_except (wpAny_mono h (fun _ _ q => q) fun _ _ f => f.elim)
/-- a comprehension's source that is a tuple of the ledger -/
def TupSrc (prog : Program) (w : World) (A : Around) (h₀ : Heap) (L : Addr) (m : Str → Option Value) (env : Env) (elt : Expr) (x : Str) (scope : Scope) (cl : List (Str × Addr)) (Fin : Shared → List Value → List (Addr × Obj) → Prop) (xv : Value) (s₁ : Shared) : Prop :=
  ∃ ax its news, xv = .ref ax ∧ A.handled = none ∧ Fr h₀ L s₁.heap m ∧ News h₀ L s₁.heap news ∧ (ax, tupO its) ∈ news ∧ its.size ≤ sizeLine ∧
    ∀ g, LCg.CompRest prog w A h₀ L m env elt x scope cl { s₁ with heap := g } (fun nw => (ax, tupO its) ∈ nw) (fun i v => its[i]? = some v) (Fin { s₁ with heap := g }) its.size 0 [] news
theorem tup_st {ax I : Addr} {its : Array Value} : ∀ i (h h' : Heap) (o : Obj) (nw : List (Addr × Obj)), (h.IsTupleIter I ax i ∧ h.IsTuple ax its) → h.get? I = some o → h'.get? I = some o → (∀ b o, h₀.get? b = some o → h'.get? b = some o) → News h₀ L h' nw → (ax, tupO its) ∈ nw → (h'.IsTupleIter I ax i ∧ h'.IsTuple ax its) :=
  fun i h h' o nw st e e' k N S => ⟨by obtain ⟨o', q, r⟩ := st.1; rw [e] at q; cases q; exact ⟨o, e', r⟩, ⟨_, (N _ S).1, rfl, _, rfl⟩⟩
theorem assign_tup {elt iter : Expr} {x y : Str} {px py : Pos} {scope : Scope} {cl : List (Str × Addr)} {pos spos : Pos} {Q : Flow → Shared → Prop} (F₀ : Fr h₀ L s.heap m) (hLe : env.locals = L)
    (hsw : swapsWith (.ListComp elt [⟨.Name x px, iter, [], 0⟩] scope pos) (some (.Name y py)) spos.line env = pure true)
    (hclos : closureFor scope env = pure cl) (hcell : ∀ z ∈ scope.names, z.2 ≠ .cell) (hkind : scope.kind = .function)
    (hnames : ∀ z ∈ scope.names, z.2 = .local → scope.names.lookup z.1 = some .local) (hx : scope.names.lookup x = some .local)
    (hy : env.kindOf y = some .local) (hp : (env.scope.kind == .class || (env.scope.kind == .module && env.locals != env.globals)) = false)
    (h : wpAny (model prog w) A (eval iter env) (TupSrc prog w A h₀ L m env elt x scope cl (fun s₂ => LCg.FinA h₀ L m s₂ y Q)) E s)
    (hs : ∀ x, foldedSetIterable iter env x = pure x := by intro _; rfl) :
    wpAny (model prog w) A (exec (.Assign [.Name y py] (.ListComp elt [⟨.Name x px, iter, [], 0⟩] scope pos) spos) env) Q E s := by
  subst hLe
  rw [exec_Assign_Name_used _ _ _ _ hsw]
  refine wpAny_bind (wpAny_standAt (wpAny_bind ?_))
  show wpAny _ A (do let _ ← comprehension (.ListComp elt [⟨.Name x px, iter, [], 0⟩] scope pos) scope env _ (newList []) false (eval iter env) (some (assign (.Name y py) env))) _ _ s
  refine wpAny_bind (wpAny_mono (wpAny_comprehension_free (use := some (assign (.Name y py) env)) (Q := fun _ s' => Q .next s') rfl hs hclos hkind hnames
    (wpAny_mono h (fun xv s₁ h₁ => ?_) fun _ _ e => e)) (fun _ s' hq => wpAny_pure (wpAny_pure hq)) fun _ _ e => e)
  obtain ⟨ax, its, news, rfl, hh, F, N, hm, hsz, R⟩ := h₁
  have hl : s₁.heap.IsTuple ax its := ⟨_, (N _ hm).1, rfl, _, rfl⟩
  have hlt : ax < s₁.heap.objs.size := Heap.lt_size (N _ hm).1
  refine wpAny_pyIter_tuple hl ?_
  have up : ∀ b o, s₁.heap.get? b = some o → (s₁.heap.push { cls := .type "tuple_iterator", data := .fields #[.ref ax, .int 0 0] }).get? b = some o := fun b o e => Heap.get?_push_of_some _ e
  refine LCg.block_U (S := fun nw => (ax, tupO its) ∈ nw) (Walks.tuple hh s₁.heap.objs.size ax (Nat.ne_of_lt hlt) its) hsz (fun i h st => by obtain ⟨o, e, _⟩ := st.1; exact ⟨o, e⟩) tup_st hcell hkind hx ⟨⟨_, Heap.get?_push_size _ rfl, rfl, rfl⟩, hl.push _⟩ ?_
    (F.keeps up) (N.grown up) (Nat.ne_of_lt F.ns.lt) (next_is_new F) (fun p hp => Nat.ne_of_lt (Heap.lt_size (N p hp).1)) hm (R _) ?_
  · intro b hb
    show b < (s₁.heap.push _).objs.size
    rw [Heap.size_push]
    have : b = s₁.heap.objs.size ∨ b = ax := by simpa using hb
    rcases this with rfl | rfl
    · exact Nat.lt_succ_self _
    · exact Nat.lt_succ_of_lt hlt
  · intro D C h' tk m' ys news' F' N' o1 hn hC₀ hD₀ hCL hDL hCD offC fin
    show wpAny _ A (assign (.Name y py) env (.ref D)) _ _ _
    refine wpAny_assign_Name (wpAny_storeName_local hy F'.ns (fun h₂ hn₂ hs₂ => ?_) hp)
    have hL₀ : h₀.get? env.locals = none := Heap.get?_none_of_le F'.above
    have F₂ : Fr h₀ env.locals h₂ (fun z => if z = y then some (.ref D) else m z) := ⟨hn₂, fun b o e => hs₂.extBut b o (fun q => by rw [q, hL₀] at e; cases e) (F'.keep b o e), F'.above⟩
    refine ⟨m', hn.sameBut hs₂ hCL, fun h'' hs'' => fin D h'' _ (F₂.change hs'' hCL hC₀) (fun p hp => ?_) o1⟩
    have hpC : p.1 ≠ C := by
      rcases List.mem_cons.mp hp with rfl | hp
      · exact Ne.symm hCD
      · exact offC p hp
    exact ⟨hs''.extBut _ _ hpC (hs₂.extBut _ _ (N' p hp).2.1 (N' p hp).1), (N' p hp).2⟩
end
end CT
end Mine
end
section
open PySem PySem.W PySem.Calls PyProof.Rows
set_option Elab.async false
set_option maxRecDepth 100000
namespace Mine
namespace CS
open CT ST
section
variable {prog : Program} {w : World} {A : Around} {E : Value → Shared → Prop} {s : Shared} {h₀ : Heap} {L : Addr} {m : Str → Option Value} {env : Env} {R : Result → Shared → Prop}
theorem eval_set (elt gens scope pos) : eval (.SetComp elt gens scope pos) env =
    comprehension (.SetComp elt gens scope pos) scope env (firstIterPos gens pos) (newSet (.type "set")) (firstAsync gens) (firstIter gens env) := rfl
theorem turn_eq (elt target iter : Expr) (scope : Scope) (pos : Pos) (it acc : Value) (env : Env) :
    compTurn (.SetComp elt [⟨target, iter, [], 0⟩] scope pos) 0 it acc env = (do
      standAt iter.pos
      match ← pyNext it with
      | none => pure (.done .next)
      | some v =>
        letOwnedTupleGo target it v
        assign target env v
        let mut ok := true
        for c in ([] : List Expr) do
          if ok then ok ← isTrue c env (eval c env)
        if ok then
          (do let v ← eval elt env; standAt elt.pos; let _ ← call (.builtin "set.add") [acc, v])
        again (.compLoop (.SetComp elt [⟨target, iter, [], 0⟩] scope pos) 0 it acc env)) := by rfl
theorem start {elt target iter : Expr} {scope : Scope} {pos : Pos} {it acc : Value}
    (h0 : codeAny (model prog w) A (.compLoop (.SetComp elt [⟨target, iter, [], 0⟩] scope pos) 0 it acc env) R s)
    (h : wpAny (model prog w) A (pyIter it) (fun it' s' => codeAny (model prog w) A (.compLoop (.SetComp elt [⟨target, iter, [], 0⟩] scope pos) 0 it' acc env) R s')
      (notedBy (model prog w) A env fun x s' => R (.error x) s') s) :
    codeAny (model prog w) A (.compStart (.SetComp elt [⟨target, iter, [], 0⟩] scope pos) 0 it acc env) R s := by
  refine codeAny_of_tree ?_
  show wpAny _ A ((compStart (.SetComp elt [⟨target, iter, [], 0⟩] scope pos) 0 it acc env).onRaise (fun x => do noteFrame x env; standAt theWindowsPlace)) _ _ s
  refine wpAny_notedAt ?_
  unfold compStart
  show wpAny _ A (ask >>= _) _ _ s
  refine wpAny_bind (wpAny_askSetting (wpAny_ite ?_))
  split
  · first
      | exact wpAny_bind (wpAny_pure (wpAny_pure (And.intro rfl h0)))
      | exact wpAny_pure (And.intro rfl h0)
  · refine wpAny_bind (wpAny_rule ?_)
    show wpAny _ A (standAt iter.pos >>= _) _ _ s
    exact wpAny_bind (wpAny_standAt (wpAny_bind (wpAny_mono h (fun it' s' h' => wpAny_pure (And.intro rfl h')) fun _ _ x => x)))
/-- what one turn must do: give True, keep the frame and the ledger -/
def Turn (prog : Program) (w : World) (A : Around) (h₀ : Heap) (L : Addr) (m : Str → Option Value) (env : Env) (elt : Expr) (x : Str) (scope : Scope) (cl : List (Str × Addr)) (s : Shared) (its : Array Value) (news : List (Addr × Obj)) : Prop :=
  ∀ (i : Nat) v I oI C oC D oD m₂ h tk (E' : Value → Shared → Prop), its[i]? = some v → LCg.NsObj oC m₂ → m₂ x = some v → Fr h₀ L h m → News h₀ L h ((I, oI) :: (C, oC) :: (D, oD) :: news) → LCg.Off3 I C D news → ((@Ne Nat I C) ∧ (@Ne Nat I D) ∧ (@Ne Nat C D)) →
    wpAny (model prog w) A (eval elt (compEnvC scope cl C env)) (LCg.CompEnd h₀ L m { s with heap := h, toks := tk } I oI C oC D oD (fun _ => True) (fun y nw => y = .bool true ∧ nw = news)) E' { s with heap := h, toks := tk }
theorem block {elt iter : Expr} {x : Str} {px : Pos} {scope : Scope} {cl : List (Str × Addr)} {pos : Pos} {s₂ : Shared} {I ax : Addr} {its : Array Value} {news : List (Addr × Obj)} {RR : Value → Addr → Result → Shared → Prop}
    (hh : A.handled = none) (hu : A.units + 1 < cLine) (hn : 0 < its.size) (haxI : ax ≠ I)
    (hcell : ∀ y ∈ scope.names, y.2 ≠ .cell) (hkind : scope.kind = .function) (hx : scope.names.lookup x = some .local) (hst : s₂.heap.IsTupleIter I ax 0) (hm : (ax, tupO its) ∈ news)
    (F : Fr h₀ L s₂.heap m) (N : News h₀ L s₂.heap news) (hIL : L ≠ I) (hI₀ : h₀.get? I = none) (off : ∀ p ∈ news, p.1 ≠ I)
    (T : Turn prog w A h₀ L m env elt x scope cl s₂ its news)
    (hRR : ∀ D C h tk m', Fr h₀ L h m → News h₀ L h ((D, oneSet (ledOf w)) :: news) → LCg.Off1 D news → h.Ns C m' → h₀.get? C = none → C ≠ L → C ≠ D → (∀ p ∈ news, p.1 ≠ C) → RR (.ref D) C (.ok .next) { s₂ with heap := h, toks := tk }) :
    wpAny (model prog w) A (newSet (.type "set")) (fun acc s₃ => wpAny (model prog w) A (newFunctionEnv scope env.globals cl [] env.qual none .none (some env)) (fun cenv s₄ =>
      codeAny (model prog w) A (.compStart (.SetComp elt [⟨.Name x px, iter, [], 0⟩] scope pos) 0 (.ref I) acc { cenv with scope := relabel scope env }) (RR acc cenv.locals) s₄) E s₃) E s₂ := by
  refine ST.new (wpAny_newFunctionEnv hcell (by intro y hy; simp at hy) (fun h₁ hns₁ hsb₁ => ?_) hkind)
  dsimp only at hns₁ hsb₁ ⊢
  generalize hH2 : s₂.heap.push (nilSet (ledOf w)) = H2 at hns₁ hsb₁ ⊢
  have hC : H2.objs.size = s₂.heap.objs.size + 1 := by rw [← hH2, Heap.size_push]
  generalize hDd : s₂.heap.objs.size = D at *
  generalize hCc : H2.objs.size = C at *
  have hDC : D ≠ C := by rw [hC]; exact Nat.ne_of_lt (Nat.lt_succ_self _)
  have low : ∀ b o, s₂.heap.get? b = some o → b ≠ C ∧ b ≠ D := fun b o e => by
    have := Heap.lt_size e
    rw [hDd] at this
    exact ⟨by rw [hC]; exact Nat.ne_of_lt (Nat.lt_succ_of_lt this), Nat.ne_of_lt this⟩
  have old : ∀ b o, s₂.heap.get? b = some o → h₁.get? b = some o := fun b o e => hsb₁.extBut b o (low b o e).1 (Heap.get?_push_of_some _ (hH2 ▸ Heap.get?_push_of_some _ e))
  have hD₁ : h₁.get? D = some (nilSet (ledOf w)) := hsb₁.extBut _ _ hDC (Heap.get?_push_of_some _ (by rw [← hH2, ← hDd]; exact Heap.get?_push_size _ rfl))
  have fresh₀ : ∀ a, D ≤ a → h₀.get? a = none := fun a ha => by
    cases e : h₀.get? a with
    | none => rfl
    | some o' => exact absurd (Heap.lt_size (F.keep a o' e)) (Nat.not_lt.mpr (hDd ▸ ha))
  have hD₀ : h₀.get? D = none := fresh₀ _ (Nat.le_refl _)
  have hC₀ : h₀.get? C = none := fresh₀ _ (by rw [hC]; exact Nat.le_succ _)
  obtain ⟨oL, _, _, eL, _⟩ := id F.ns
  have hDL : D ≠ L := Ne.symm (low _ _ eL).2
  have hCL : C ≠ L := Ne.symm (low _ _ eL).1
  obtain ⟨oI, eI, _⟩ := id hst
  have hIC : I ≠ C := (low _ _ eI).1
  have hID : I ≠ D := (low _ _ eI).2
  have offCD : ∀ p ∈ news, p.1 ≠ C ∧ p.1 ≠ D := fun p hp => low _ _ (N p hp).1
  have off3 : LCg.Off3 I C D news := LCg.Off3.of fun p hp => ⟨off p hp, (offCD p hp).1, (offCD p hp).2⟩
  have hhW : A.handled = none := hh
  have loop : ∀ s₃ : Shared, s₃ = { s₂ with heap := h₁, toks := s₂.toks + ([] : List (Str × Value)).length } →
      codeAny (model prog w) A (.compLoop (.SetComp elt [⟨.Name x px, iter, [], 0⟩] scope pos) 0 (.ref I) (.ref D) (compEnvC scope cl C env)) (RR (.ref D) C) s₃ := by
    rintro s₃ rfl
    refine codeAny_loop rfl (fun k s' => ∃ h' tk i oD m', s' = { s₂ with heap := h', toks := tk } ∧ i ≤ its.size ∧ k = its.size - i ∧ h'.IsTupleIter I ax i ∧ Fr h₀ L h' m ∧ h'.Ns C m' ∧ News h₀ L h' ((D, oD) :: news) ∧
        ((i = 0 ∧ oD = nilSet (ledOf w)) ∨ (0 < i ∧ oD = oneSet (ledOf w)))) (fun k s' hI => ?_) its.size
      ⟨h₁, _, 0, _, _, rfl, Nat.zero_le _, rfl, ⟨oI, old _ _ eI, by obtain ⟨o, e, r⟩ := hst; rw [eI] at e; cases e; exact r⟩, F.keeps old, hns₁, fun p hp => ?_, .inl ⟨rfl, rfl⟩⟩
    · obtain ⟨h', tk, i, oD, m', rfl, hi, rfl, hit, F', hn', N', hD⟩ := hI
      show wpAny _ A ((compTurn (.SetComp elt [⟨.Name x px, iter, [], 0⟩] scope pos) 0 (.ref I) (.ref D) (compEnvC scope cl C env)).onRaise (fun x => do noteFrame x (compEnvC scope cl C env); theTreesLotGoes x)) _ _ _
      refine wpAny_noted ?_
      rw [turn_eq]
      have ht : h'.IsTuple ax its := ⟨_, (N' _ (.tail _ hm)).1, rfl, _, rfl⟩
      refine wpAny_bind (wpAny_standAt (wpAny_bind ?_))
      by_cases hlt : i < its.size
      · refine wpAny_pyNext_tuple_item hit ht (x := its[i]) (by simp [hlt]) fun h₂ hit₂ hs₂ => ?_
        dsimp only
        refine wpAny_bind (wpAny_pure ?_)
        have F₂ : Fr h₀ L h₂ m := F'.change hs₂ (Ne.symm hIL) hI₀
        have N₂ : News h₀ L h₂ ((D, oD) :: news) := fun p hp => ⟨hs₂.extBut _ _ (by
          rcases List.mem_cons.mp hp with rfl | hp
          · exact Ne.symm hID
          · exact off p hp) (N' p hp).1, (N' p hp).2⟩
        refine wpAny_bind (wpAny_assign_Name (wpAny_storeName_local (lookup_relabel_local hx) (hn'.sameBut hs₂ (Ne.symm hIC)) (fun h₃ hn₃ hs₃ => ?_) (by simp [compEnvC, relabel, hkind])))
        refine wpAny_bind (wpAny_tests_nil ?_)
        simp only [if_true]
        obtain ⟨oI₃, eI₃, rI₃⟩ := hit₂
        have eI₃' := hs₃.extBut _ _ hIC eI₃
        obtain ⟨oC, heC, hoC⟩ := LCg.ns_obj hn₃
        have F₃ : Fr h₀ L h₃ m := F₂.change hs₃ hCL hC₀
        have N₃ : News h₀ L h₃ ((I, oI₃) :: (C, oC) :: (D, oD) :: news) := fun p hp => by
          rcases List.mem_cons.mp hp with rfl | hp
          · exact ⟨eI₃', Ne.symm hIL, hI₀⟩
          rcases List.mem_cons.mp hp with rfl | hp
          · exact ⟨heC, hCL, hC₀⟩
          refine ⟨hs₃.extBut _ _ ?_ (N₂ p hp).1, (N₂ p hp).2⟩
          rcases List.mem_cons.mp hp with rfl | hp
          · exact hDC
          · exact (offCD p hp).1
        refine wpAny_bind (wpAny_bind (wpAny_mono (T i its[i] I oI₃ C oC D oD _ h₃ _ _ (by simp [hlt]) hoC (by simp) F₃ N₃ off3 ⟨hIC, hID, Ne.symm hDC⟩) (fun y s₄ h₄ => ?_) fun _ _ e => e))
        obtain ⟨h₄, tk₄, nw, rfl, F₄, N₄, _, _, rfl, rfl⟩ := h₄
        have zI := (N₄ _ (.head _)).1
        have zC := (N₄ _ (.tail _ (.head _))).1
        have zD := (N₄ _ (.tail _ (.tail _ (.head _)))).1
        refine wpAny_bind (wpAny_standAt (wpAny_bind ?_))
        have done : ∀ h₅ tk₅, (∀ b o, b ≠ D → h₄.get? b = some o → h₅.get? b = some o) → h₅.get? D = some (oneSet (ledOf w)) →
            ∃ h' tk j oD m', ({ s₂ with heap := h₅, toks := tk₅ } : Shared) = { s₂ with heap := h', toks := tk } ∧ j ≤ its.size ∧ its.size - (i + 1) = its.size - j ∧ h'.IsTupleIter I ax j ∧ Fr h₀ L h' m ∧ h'.Ns C m' ∧ News h₀ L h' ((D, oD) :: nw) ∧
              ((j = 0 ∧ oD = nilSet (ledOf w)) ∨ (0 < j ∧ oD = oneSet (ledOf w))) := fun h₅ tk₅ k₅ d₅ => by
          refine ⟨h₅, tk₅, i + 1, oneSet (ledOf w), _, rfl, hlt, rfl, ⟨oI₃, k₅ _ _ hID zI, rI₃⟩, LCg.fr_but F₄ (I := D) (fun b o hb e => k₅ b o (by simpa using hb) e) (Ne.symm hDL) hD₀, hoC.ns (k₅ _ _ (Ne.symm hDC) zC), fun p hp => ?_, .inr ⟨Nat.succ_pos _, rfl⟩⟩
          rcases List.mem_cons.mp hp with rfl | hp
          · exact ⟨d₅, hDL, hD₀⟩
          · have z := N₄ p (.tail _ (.tail _ (.tail _ hp)))
            exact ⟨k₅ _ _ (offCD p hp).2 z.1, z.2⟩
        rcases hD with ⟨_, rfl⟩ | ⟨_, rfl⟩
        · refine ST.add_first hu zD fun h₅ tk₅ hs₅ d₅ => ?_
          exact wpAny_pure (wpAny_pure ⟨rfl, its.size - (i + 1), by omega, done h₅ tk₅ (fun b o hb e => hs₅.extBut b o hb e) d₅⟩)
        · refine ST.add_again hu zD fun tk₅ => ?_
          exact wpAny_pure (wpAny_pure ⟨rfl, its.size - (i + 1), by omega, done h₄ tk₅ (fun b o _ e => e) zD⟩)
      · obtain rfl : i = its.size := Nat.le_antisymm hi (Nat.not_lt.mp hlt)
        rcases hD with ⟨h0, _⟩ | ⟨_, rfl⟩
        · omega
        refine wpAny_pyNext_tuple_end hh hit ht (by simp) fun h₂ he₂ => wpAny_pure ?_
        refine hRR D C h₂ tk m' (LCg.fr_but F' (I := I) (fun b o hb e => he₂ b o (by simpa using hb) e) hIL hI₀) (fun p hp => ⟨he₂ _ _ ?_ (N' p hp).1, (N' p hp).2⟩) (off3.one) (hn'.at' fun o e => he₂ _ o (Ne.symm hIC) e) hC₀ hCL (Ne.symm hDC) fun p hp => (offCD p hp).1
        rcases List.mem_cons.mp hp with rfl | hp
        · exact Ne.symm hID
        · exact off p hp
    · rcases List.mem_cons.mp hp with rfl | hp
      · exact ⟨hD₁, hDL, hD₀⟩
      · exact ⟨old _ _ (N p hp).1, (N p hp).2⟩
  exact start (loop _ rfl) (wpAny_pyIter_tupleiter (i := 0) ⟨oI, old _ _ eI, by obtain ⟨o, e, r⟩ := hst; rw [eI] at e; cases e; exact r⟩ (loop _ rfl))
def Src (prog : Program) (w : World) (A : Around) (h₀ : Heap) (L : Addr) (m : Str → Option Value) (env : Env) (elt : Expr) (x : Str) (scope : Scope) (cl : List (Str × Addr)) (Q : Value → Shared → Prop) (xv : Value) (s₁ : Shared) : Prop :=
  ∃ ax its news, xv = .ref ax ∧ A.handled = none ∧ Fr h₀ L s₁.heap m ∧ News h₀ L s₁.heap news ∧ (ax, tupO its) ∈ news ∧ 0 < its.size ∧
      (∀ g, Turn prog w A h₀ L m env elt x scope cl { s₁ with heap := g } its news) ∧ ∀ D h tk, Fr h₀ L h m → News h₀ L h ((D, oneSet (ledOf w)) :: news) → LCg.Off1 D news → Q (.ref D) { s₁ with heap := h, toks := tk }
theorem setcomp {elt iter : Expr} {x : Str} {px : Pos} {scope : Scope} {cl : List (Str × Addr)} {pos : Pos} {Q : Value → Shared → Prop} (F₀ : Fr h₀ L s.heap m) (hu : A.units + 1 < cLine)
    (hclos : closureFor scope env = pure cl) (hcell : ∀ z ∈ scope.names, z.2 ≠ .cell) (hkind : scope.kind = .function)
    (hnames : ∀ z ∈ scope.names, z.2 = .local → scope.names.lookup z.1 = some .local) (hx : scope.names.lookup x = some .local)
    (h : wpAny (model prog w) A (eval iter env) (Src prog w A h₀ L m env elt x scope cl Q) E s)
    (hs : ∀ x, foldedSetIterable iter env x = pure x := by intro _; rfl) :
    wpAny (model prog w) A (eval (.SetComp elt [⟨.Name x px, iter, [], 0⟩] scope pos) env) Q E s := by
  rw [eval_set]
  refine wpAny_comprehension_free (use := none) rfl hs hclos hkind hnames (wpAny_mono h (fun xv s₁ h₁ => ?_) fun _ _ e => e)
  obtain ⟨ax, its, news, rfl, hh, F, N, hm, hn, T, fin⟩ := h₁
  have hl : s₁.heap.IsTuple ax its := ⟨_, (N _ hm).1, rfl, _, rfl⟩
  have hlt : ax < s₁.heap.objs.size := Heap.lt_size (N _ hm).1
  refine wpAny_pyIter_tuple hl ?_
  have up : ∀ b o, s₁.heap.get? b = some o → (s₁.heap.push { cls := .type "tuple_iterator", data := .fields #[.ref ax, .int 0 0] }).get? b = some o := fun b o e => Heap.get?_push_of_some _ e
  refine block hh hu hn (Nat.ne_of_lt hlt) hcell hkind hx ⟨_, Heap.get?_push_size _ rfl, rfl, rfl⟩ hm (F.keeps up) (N.grown up) (Nat.ne_of_lt F.ns.lt) (next_is_new F) (fun p hp => Nat.ne_of_lt (Heap.lt_size (N p hp).1)) (T _) ?_
  intro D C h' tk m' F' N' o1 hn hC₀ hCL hCD offC
  refine ⟨m', hn, fun h'' hs'' => fin D h'' tk (F'.change hs'' hCL hC₀) (fun p hp => ?_) o1⟩
  refine ⟨hs''.extBut _ _ ?_ (N' p hp).1, (N' p hp).2⟩
  rcases List.mem_cons.mp hp with rfl | hp
  · exact Ne.symm hCD
  · exact offC p hp
theorem assign_one {y : Str} {py : Pos} {x1} {pos : Pos} {D : Addr} {Q : Unit → Shared → Prop} (hh : A.handled = none) (ho : s.heap.get? D = some (oneSet (ledOf w)))
    (h : ∀ h', (∀ b o, s.heap.get? b = some o → h'.get? b = some o) → wpAny (model prog w) A (assign (.Name y py) env (.bool true)) Q E { s with heap := h' }) :
    wpAny (model prog w) A (assign (.Tuple [.Name y py] x1 pos) env (.ref D)) Q E s := by
  rw [arm_assign_Tuple]
  refine wpAny_bind (wpAny_standAt ?_)
  unfold unpack
  show wpAny _ _ (holding [.ref D] (unpackItems (.ref D) 1 none) >>= fun vs => assignInOrder [assign (.Name y py) env] vs) _ _ s
  refine wpAny_bind (wpAny_holding (ST.items hh ho fun h' he => ?_))
  show wpAny _ _ (holding [] (assign (.Name y py) env (.bool true)) >>= fun _ => assignInOrder [] []) _ _ _
  exact wpAny_bind (wpAny_holding (wpAny_mono (h h' fun b o e => he b o (Nat.ne_of_lt (Heap.lt_size e)) e) (fun _ _ q => wpAny_pure q) fun _ _ e => e))
end
end CS
end Mine
end
section
open PySem PySem.W PyProof.Rows
set_option Elab.async false
set_option maxRecDepth 100000
namespace Mine
section
variable {prog : Program} {w : World} {A : Around} {s : Shared} {h₀ : Heap} {L : Addr} {m : Str → Option Value} {env : Env}
/-- a comprehension whose turns make objects: the ledger grows upon its base -/
theorem comp_grow {elt : Expr} {x : Str} {scope : Scope} {cl : List (Str × Addr)} {S : List (Addr × Obj) → Prop} {P : Nat → Value → Prop} {Fin : List Value → List (Addr × Obj) → Prop} {n : Nat} {base : List (Addr × Obj)} (J : Nat → List Value → List (Addr × Obj) → Prop)
    (turn : ∀ i ys nw v I oI C oC D m₂ h tk (E' : Value → Shared → Prop), i < n → (∀ p ∈ base, p ∈ nw) → J i ys nw → P i v → LCg.NsObj oC m₂ → m₂ x = some v → Fr h₀ L h m → News h₀ L h ((I, oI) :: (C, oC) :: (D, LCg.lst ys) :: nw) → LCg.Off3 I C D nw → ((@Ne Nat I C) ∧ (@Ne Nat I D) ∧ (@Ne Nat C D)) →
      wpAny (model prog w) A (eval elt (compEnvC scope cl C env)) (LCg.CompEnd h₀ L m { s with heap := h, toks := tk } I oI C oC D (LCg.lst ys) S (fun y nw' => (∀ p ∈ base, p ∈ nw') ∧ J (i + 1) (ys ++ [y]) nw')) E' { s with heap := h, toks := tk })
    (h0 : J 0 [] base) (fin : ∀ ys nw, (∀ p ∈ base, p ∈ nw) → J n ys nw → Fin ys nw) : LCg.CompRest prog w A h₀ L m env elt x scope cl s S P Fin n 0 [] base :=
  comp_inv (fun i ys nw => (∀ p ∈ base, p ∈ nw) ∧ J i ys nw) (fun i ys nw v I oI C oC D m₂ h tk E' hi hj hP hC hx F N off ne => turn i ys nw v I oI C oC D m₂ h tk E' hi hj.1 hj.2 hP hC hx F N off ne)
    (fun ys nw hj => fin ys nw hj.1 hj.2) n 0 [] base (Nat.zero_add n) ⟨fun _ h => h, h0⟩
/-- a comprehension with a test whose turns leave the ledger as it is -/
theorem compT_from {ct elt : Expr} {x : Str} {scope : Scope} {cl : List (Str × Addr)} {S : List (Addr × Obj) → Prop} {P : Nat → Value → Prop} {Fin : List Value → List (Addr × Obj) → Prop} {n : Nat} {nw : List (Addr × Obj)} (J : Nat → List Value → Prop)
    (turn : ∀ i ys v I oI C oC D m₂ h tk (E' : Value → Shared → Prop), i < n → J i ys → P i v → LCg.NsObj oC m₂ → m₂ x = some v → Fr h₀ L h m → News h₀ L h ((I, oI) :: (C, oC) :: (D, LCg.lst ys) :: nw) → LCg.Off3 I C D nw → ((@Ne Nat I C) ∧ (@Ne Nat I D) ∧ (@Ne Nat C D)) →
      wpAny (model prog w) A (isTrue ct (compEnvC scope cl C env) (eval ct (compEnvC scope cl C env))) (fun ok s' => if ok = true then
        wpAny (model prog w) A (eval elt (compEnvC scope cl C env)) (LCg.CompEnd h₀ L m { s with heap := h, toks := tk } I oI C oC D (LCg.lst ys) S (fun y nw' => nw' = nw ∧ J (i + 1) (ys ++ [y]))) E' s'
        else LCg.CompEnd h₀ L m { s with heap := h, toks := tk } I oI C oC D (LCg.lst ys) S (fun _ nw' => nw' = nw ∧ J (i + 1) ys) Value.none s') E' { s with heap := h, toks := tk })
    (fin : ∀ ys, J n ys → Fin ys nw) : ∀ (k i : Nat) (ys : List Value), i + k = n → J i ys → LCt.CompRestT prog w A h₀ L m env ct elt x scope cl s S P Fin k i ys nw
  | 0, i, ys, e, hj => by
    rw [Nat.add_zero] at e
    subst e
    exact LCt.CompRestT.zero (fin ys hj)
  | k + 1, i, ys, e, hj => by
    refine LCt.CompRestT.succ fun v I oI C oC D m₂ h tk E' hP hC hx F N off ne => ?_
    refine wpAny_mono (turn i ys v I oI C oC D m₂ h tk E' (by omega) hj hP hC hx F N off ne) (fun ok s₂ he => ?_) fun _ _ e => e
    cases ok with
    | true =>
      simp only [if_true] at he ⊢
      refine wpAny_mono he (fun y s₃ h₃ => ?_) fun _ _ e => e
      obtain ⟨h', tk', nw', rfl, F', N', off', hS', rfl, hj'⟩ := h₃
      exact ⟨h', tk', _, rfl, F', N', off', hS', compT_from J turn fin k (i + 1) (ys ++ [y]) (by omega) hj'⟩
    | false =>
      simp only [Bool.false_eq_true, if_false] at he ⊢
      obtain ⟨h', tk', nw', rfl, F', N', off', hS', rfl, hj'⟩ := he
      exact ⟨h', tk', _, rfl, F', N', off', hS', compT_from J turn fin k (i + 1) ys (by omega) hj'⟩
end
/-- values that are lists of bytes, each in the ledger -/
def LLs (nw : List (Addr × Obj)) : List Value → List (List (List UInt8)) → Prop
  | [], [] => True
  | v :: ys, bs :: bss => (∃ a vs n, v = .ref a ∧ (a, listOf vs n) ∈ nw ∧ BM.BAre vs.toList bs) ∧ LLs nw ys bss
  | _, _ => False
theorem LLs.mono {nw nw' : List (Addr × Obj)} (h : ∀ p ∈ nw, p ∈ nw') : ∀ {ys : List Value} {bss : List (List (List UInt8))}, LLs nw ys bss → LLs nw' ys bss
  | [], [], _ => trivial
  | _ :: _, _ :: _, ⟨⟨a, vs, n, e, hm, hb⟩, r⟩ => ⟨⟨a, vs, n, e, h _ hm, hb⟩, r.mono h⟩
theorem LLs.snoc {nw : List (Addr × Obj)} {a : Addr} {vs : Array Value} {n : Nat} {bs : List (List UInt8)} (hm : (a, listOf vs n) ∈ nw) (hb : BM.BAre vs.toList bs) : ∀ {ys : List Value} {bss : List (List (List UInt8))}, LLs nw ys bss → LLs nw (ys ++ [.ref a]) (bss ++ [bs])
  | [], [], _ => ⟨⟨a, vs, n, rfl, hm, hb⟩, trivial⟩
  | _ :: _, _ :: _, ⟨x, r⟩ => ⟨x, r.snoc hm hb⟩
theorem LLs.length {nw : List (Addr × Obj)} : ∀ {ys : List Value} {bss : List (List (List UInt8))}, LLs nw ys bss → ys.length = bss.length
  | [], [], _ => rfl
  | _ :: _, _ :: _, ⟨_, r⟩ => by rw [List.length_cons, List.length_cons, r.length]
theorem LLs.get {nw : List (Addr × Obj)} : ∀ {ys : List Value} {bss : List (List (List UInt8))}, LLs nw ys bss → ∀ (i : Nat) (v : Value), ys[i]? = some v → ∃ bs a vs n, bss[i]? = some bs ∧ v = .ref a ∧ (a, listOf vs n) ∈ nw ∧ BM.BAre vs.toList bs
  | _ :: _, _ :: _, ⟨⟨a, vs, n, e, hm, hb⟩, _⟩, 0, v, h => by
    simp at h; subst h; exact ⟨_, a, vs, n, by simp, e, hm, hb⟩
  | _ :: _, _ :: _, ⟨_, r⟩, i + 1, v, h => by
    simp at h
    obtain ⟨bs, a, vs, n, x⟩ := r.get i v h
    exact ⟨bs, a, vs, n, by simpa using x⟩
/-- the figures' letters, each as bytes -/
def lets (ds : List Nat) : List (List UInt8) := ds.map fun d => [ltr d]
def splitOf (ds : List Nat) : List (List UInt8) := (BM.splitL (pathL ds).toArray [47].toArray).map Array.toList
theorem splitOf_eq {ds : List Nat} (h : Fig ds) : splitOf ds = [] :: (if ds = [] then [[]] else lets ds) := by
  unfold splitOf
  rw [split_path h, List.map_cons]
  by_cases h0 : ds = []
  · simp [h0]
  · simp [h0, lets]
theorem news_put {h₀ h : Heap} {L : Addr} {a b c : Addr × Obj} {base nw : List (Addr × Obj)} (N : News h₀ L h (a :: b :: c :: nw)) (hs : ∀ p ∈ base, p ∈ nw) : News h₀ L h (a :: b :: c :: (base ++ nw)) := fun p hp => by
  rcases List.mem_cons.mp hp with rfl | hp
  · exact N _ (.head _)
  rcases List.mem_cons.mp hp with rfl | hp
  · exact N _ (.tail _ (.head _))
  rcases List.mem_cons.mp hp with rfl | hp
  · exact N _ (.tail _ (.tail _ (.head _)))
  rcases List.mem_append.mp hp with hp | hp
  · exact N _ (.tail _ (.tail _ (.tail _ (hs _ hp))))
  · exact N _ (.tail _ (.tail _ (.tail _ hp)))
theorem news_put1 {h₀ h : Heap} {L : Addr} {a : Addr × Obj} {base nw : List (Addr × Obj)} (N : News h₀ L h (a :: nw)) (hs : ∀ p ∈ base, p ∈ nw) : News h₀ L h (a :: (base ++ nw)) := fun p hp => by
  rcases List.mem_cons.mp hp with rfl | hp
  · exact N _ (.head _)
  rcases List.mem_append.mp hp with hp | hp
  · exact N _ (.tail _ (hs _ hp))
  · exact N _ (.tail _ hp)
/-- a comprehension's turn that ends in a new list -/
theorem turn_new {h₀ h : Heap} {L I C D : Addr} {m : Str → Option Value} {s₁ : Shared} {oI oC oD o : Obj} {S : List (Addr × Obj) → Prop} {rest : Value → List (Addr × Obj) → Prop} {tk : Nat} {nw : List (Addr × Obj)}
    (F : Fr h₀ L h m) (N : News h₀ L h ((I, oI) :: (C, oC) :: (D, oD) :: nw)) (off : LCg.Off3 I C D nw) (ho : o.isFreed = false) (hS : S ((h.objs.size, o) :: nw)) (r : rest (.ref h.objs.size) ((h.objs.size, o) :: nw)) :
    LCg.CompEnd h₀ L m s₁ I oI C oC D oD S rest (.ref h.objs.size) { s₁ with heap := h.push o, toks := tk } := by
  have lI := Heap.lt_size (N _ (.head _)).1
  have lC := Heap.lt_size (N _ (.tail _ (.head _))).1
  have lD := Heap.lt_size (N _ (.tail _ (.tail _ (.head _)))).1
  refine ⟨h.push o, tk, (h.objs.size, o) :: nw, rfl, F.push _, fun p hp => ?_, ⟨⟨Ne.symm (Nat.ne_of_lt lI), Ne.symm (Nat.ne_of_lt lC), Ne.symm (Nat.ne_of_lt lD)⟩, off⟩, hS, r⟩
  have N' := N.push F o ho
  rcases List.mem_cons.mp hp with rfl | hp
  · exact N' _ (.tail _ (.head _))
  rcases List.mem_cons.mp hp with rfl | hp
  · exact N' _ (.tail _ (.tail _ (.head _)))
  rcases List.mem_cons.mp hp with rfl | hp
  · exact N' _ (.tail _ (.tail _ (.tail _ (.head _))))
  rcases List.mem_cons.mp hp with rfl | hp
  · exact N' _ (.head _)
  · exact N' _ (.tail _ (.tail _ (.tail _ (.tail _ hp))))
theorem split_small {ds : List Nat} (h : Fig ds) : (∀ p ∈ BM.splitL (pathL ds).toArray [47].toArray, p.size ≤ 16777216) ∧ (BM.splitL (pathL ds).toArray [47].toArray).length ≤ 16777216 := by
  rw [split_path h]
  have hl := h.2
  by_cases h0 : ds = []
  · simp [h0]
  · simp only [h0, if_false]
    refine ⟨fun p hp => ?_, by simp; omega⟩
    rcases List.mem_cons.mp hp with rfl | hp
    · simp
    · obtain ⟨d, _, rfl⟩ := List.mem_map.mp hp
      simp
theorem BAre.at {vs : List Value} {pss : List (List Nat)} (hv : BM.BAre vs (pss.map pathL)) {i : Nat} {v : Value} (h : vs[i]? = some v) : ∃ ds t, pss[i]? = some ds ∧ ds ∈ pss ∧ v = .bytes (pathL ds).toArray t := by
  have hi : i < pss.length := by
    have := (List.getElem?_eq_some_iff.mp h).1
    rw [hv.length, List.length_map] at this
    exact this
  obtain ⟨t, ht⟩ := hv.get i (pathL pss[i]) (by simp [hi])
  rw [h] at ht
  cases ht
  exact ⟨pss[i], t, by simp [hi], List.getElem_mem hi, rfl⟩

/-- what the filter «c and c != curdir» keeps -/
def good (b : List UInt8) : Bool := b != [] && b != [46]
theorem good_split {ds : List Nat} (h : Fig ds) : (splitOf ds).filter good = lets ds := by
  rw [splitOf_eq h]
  by_cases h0 : ds = []
  · subst h0; rfl
  · simp only [h0, if_false]
    rw [List.filter_cons_of_neg (by decide)]
    refine List.filter_eq_self.mpr fun b hb => ?_
    obtain ⟨d, hd, rfl⟩ := List.mem_map.mp hb
    have := (ltr_ne (h.1 d hd)).2
    simp [good, this]
theorem split_mem {ds : List Nat} (h : Fig ds) {b : List UInt8} (hb : b ∈ splitOf ds) : b = [] ∨ ∃ d, d < 16 ∧ b = [ltr d] := by
  rw [splitOf_eq h] at hb
  rcases List.mem_cons.mp hb with rfl | hb
  · exact .inl rfl
  by_cases h0 : ds = []
  · simp only [h0, if_true, List.mem_singleton] at hb
    exact .inl hb
  · simp only [h0, if_false] at hb
    obtain ⟨d, hd, rfl⟩ := List.mem_map.mp hb
    exact .inr ⟨d, h.1 d hd, rfl⟩
theorem split_count {ds : List Nat} (h : Fig ds) : (splitOf ds).length ≤ 6 := by
  rw [splitOf_eq h]
  have := h.2
  by_cases h0 : ds = []
  · simp [h0]
  · simp [h0, lets]; omega
/-- an inner comprehension's end, as the outer's turn wants it -/
theorem turn_end {h₀ h : Heap} {L I C D a : Addr} {m : Str → Option Value} {s₁ : Shared} {oI oC oD o : Obj} {S : List (Addr × Obj) → Prop} {rest : Value → List (Addr × Obj) → Prop} {tk : Nat} {base nw : List (Addr × Obj)}
    (F : Fr h₀ L h m) (N : News h₀ L h ((a, o) :: (I, oI) :: (C, oC) :: (D, oD) :: (base ++ nw))) (off1 : LCg.Off1 a ((I, oI) :: (C, oC) :: (D, oD) :: (base ++ nw))) (off : LCg.Off3 I C D nw) (hS : S ((a, o) :: nw)) (r : rest (.ref a) ((a, o) :: nw)) :
    LCg.CompEnd h₀ L m s₁ I oI C oC D oD S rest (.ref a) { s₁ with heap := h, toks := tk } := by
  obtain ⟨e1, e2, e3, _⟩ := off1
  refine ⟨h, tk, (a, o) :: nw, rfl, F, fun p hp => ?_, ⟨⟨Ne.symm e1, Ne.symm e2, Ne.symm e3⟩, off⟩, hS, r⟩
  rcases List.mem_cons.mp hp with rfl | hp
  · exact N _ (.tail _ (.head _))
  rcases List.mem_cons.mp hp with rfl | hp
  · exact N _ (.tail _ (.tail _ (.head _)))
  rcases List.mem_cons.mp hp with rfl | hp
  · exact N _ (.tail _ (.tail _ (.tail _ (.head _))))
  rcases List.mem_cons.mp hp with rfl | hp
  · exact N _ (.head _)
  · exact N _ (.tail _ (.tail _ (.tail _ (.tail _ (List.mem_append_right _ hp)))))
end Mine
end
section
open PySem PySem.W PySem.Calls PyProof.Rows
set_option Elab.async false
set_option maxRecDepth 100000
namespace Mine
theorem order_one {a b : Nat} (ha : a < 16) (hb : b < 16) : (Builtin.Bytes.order [ltr a] [ltr b] == .lt) = decide (a < b) ∧ (Builtin.Bytes.order [ltr a] [ltr b] == .gt) = decide (b < a) := by
  have e : ∀ a b : _root_.Fin 16, (Builtin.Bytes.order [ltr a.val] [ltr b.val] == .lt) = decide (a.val < b.val) ∧ (Builtin.Bytes.order [ltr a.val] [ltr b.val] == .gt) = decide (b.val < a.val) := by decide +kernel
  exact e ⟨a, ha⟩ ⟨b, hb⟩
theorem lt_lets : ∀ {xs ys : List Nat}, (∀ d ∈ xs, d < 16) → (∀ d ∈ ys, d < 16) → LT.ltL (lets xs) (lets ys) = decide (xs < ys)
  | [], [], _, _ => by simp [lets, LT.ltL]
  | [], y :: ys, _, _ => by simp [lets, LT.ltL]
  | x :: xs, [], _, _ => by simp [lets, LT.ltL]
  | x :: xs, y :: ys, hx, hy => by
    have ih := lt_lets (xs := xs) (ys := ys) (fun d hd => hx d (.tail _ hd)) fun d hd => hy d (.tail _ hd)
    have o := order_one (hx x (.head _)) (hy y (.head _))
    show (if [ltr x] = [ltr y] then LT.ltL (lets xs) (lets ys) else Builtin.Bytes.order [ltr x] [ltr y] == .lt) = _
    by_cases h : x = y
    · subst h
      rw [if_pos rfl, ih]
      rw [decide_eq_decide, List.cons_lt_cons_iff]
      exact ⟨fun q => .inr ⟨rfl, q⟩, fun q => q.elim (fun e => absurd e (Nat.lt_irrefl _)) (·.2)⟩
    · rw [if_neg (fun e => h (ltr_inj (hx x (.head _)) (hy y (.head _)) (by simpa using e))), o.1]
      rw [decide_eq_decide, List.cons_lt_cons_iff]
      omega
theorem gt_lets : ∀ {xs ys : List Nat}, (∀ d ∈ xs, d < 16) → (∀ d ∈ ys, d < 16) → LT.gtL (lets xs) (lets ys) = decide (ys < xs)
  | [], [], _, _ => by simp [lets, LT.gtL]
  | [], y :: ys, _, _ => by simp [lets, LT.gtL]
  | x :: xs, [], _, _ => by simp [lets, LT.gtL]
  | x :: xs, y :: ys, hx, hy => by
    have ih := gt_lets (xs := xs) (ys := ys) (fun d hd => hx d (.tail _ hd)) fun d hd => hy d (.tail _ hd)
    have o := order_one (hx x (.head _)) (hy y (.head _))
    show (if [ltr x] = [ltr y] then LT.gtL (lets xs) (lets ys) else Builtin.Bytes.order [ltr x] [ltr y] == .gt) = _
    by_cases h : x = y
    · subst h
      rw [if_pos rfl, ih]
      rw [decide_eq_decide, List.cons_lt_cons_iff]
      exact ⟨fun q => .inr ⟨rfl, q⟩, fun q => q.elim (fun e => absurd e (Nat.lt_irrefl _)) (·.2)⟩
    · rw [if_neg (fun e => h (ltr_inj (hx x (.head _)) (hy y (.head _)) (by simpa using e))), o.2]
      rw [decide_eq_decide, List.cons_lt_cons_iff]
      omega

theorem best_min {pss : List (List Nat)} {bt : Nat → Nat → Bool} (hbt : ∀ i j (hi : i < pss.length) (hj : j < pss.length), bt i j = decide (pss[i] < pss[j])) :
    ∀ k (hk : k < pss.length), ∃ hb : argBest bt k < pss.length, argBest bt k ≤ k ∧ ∀ j (hj : j < pss.length), j ≤ k → ¬ pss[j] < pss[argBest bt k] := by
  intro k
  induction k with
  | zero =>
    intro hk
    refine ⟨hk, Nat.le_refl _, fun j hj hjk => ?_⟩
    obtain rfl : j = 0 := by omega
    exact List.lt_irrefl _
  | succ k ih =>
    intro hk
    obtain ⟨hb, hle, hbest⟩ := ih (by omega)
    have e : argBest bt (k + 1) = if bt (k + 1) (argBest bt k) then k + 1 else argBest bt k := rfl
    have hq := hbt (k + 1) (argBest bt k) hk hb
    by_cases hc : pss[k + 1] < pss[argBest bt k]
    · rw [hq, decide_eq_true hc, if_pos rfl] at e
      refine ⟨by rw [e]; exact hk, by rw [e]; exact Nat.le_refl _, fun j hj hjk => ?_⟩
      simp only [e]
      by_cases h1 : j = k + 1
      · subst h1; exact List.lt_irrefl _
      · exact fun hlt => hbest j hj (by omega) (List.lt_trans hlt hc)
    · rw [hq, decide_eq_false hc, if_neg (by decide)] at e
      refine ⟨by rw [e]; exact hb, by rw [e]; omega, fun j hj hjk => ?_⟩
      simp only [e]
      by_cases h1 : j = k + 1
      · subst h1; exact hc
      · exact hbest j hj (by omega)
section
variable {prog : Program} {w : World} {A : Around} {E : Value → Shared → Prop} {s : Shared} {h₀ : Heap} {L : Addr} {m : Str → Option Value} {news : List (Addr × Obj)}
theorem min_lists {D : Addr} {ys : List Value} {pss : List (List Nat)} {nD : Nat} {Q : Value → Shared → Prop} (hh : A.handled = none) (hu : A.in1.units < cLine) (N : News h₀ L s.heap news) (hD : (D, listOf ys.toArray nD) ∈ news) (hL : LLs news ys (pss.map lets)) (hf : ∀ ds ∈ pss, Fig ds) (h0 : pss ≠ [])
    (hQ : ∀ a vs n p h' tk, (a, listOf vs n) ∈ news → BM.BAre vs.toList (lets p) → p ∈ pss → (∀ q ∈ pss, ¬ q < p) → (∀ b o, s.heap.get? b = some o → h'.get? b = some o) → Q (.ref a) { s with heap := h', toks := tk }) :
    wpAny (model prog w) A (call (.builtin "min") [.ref D]) Q E s := by
  have hyl : ys.length = pss.length := by rw [hL.length, List.length_map]
  have hlD : s.heap.IsList D ys.toArray := ⟨_, (N _ hD).1, rfl, _, rfl⟩
  have hpos : 0 < pss.length := List.length_pos_iff.mpr h0
  have hget : ∀ i v, ys[i]? = some v → ∃ (hi : i < pss.length), ∃ a vs n, v = .ref a ∧ (a, listOf vs n) ∈ news ∧ BM.BAre vs.toList (lets pss[i]) := fun i v hv => by
    obtain ⟨bs, a, vs, n, e, rfl, hm, hb⟩ := hL.get i v hv
    have hi : i < pss.length := by
      have := (List.getElem?_eq_some_iff.mp hv).1
      omega
    rw [List.getElem?_map, List.getElem?_eq_getElem hi] at e
    cases e
    exact ⟨hi, a, vs, n, rfl, hm, hb⟩
  refine LT.min_call (bt := fun i j => LT.ltL (lets (pss.getD i [])) (lets (pss.getD j []))) ?_
  refine wpAny_pyIter_list hlD ?_
  have hDlt : D < s.heap.objs.size := Heap.lt_size (N _ hD).1
  have W := Walks.list (prog := prog) (w := w) (A := A.in1) hh s.heap.objs.size D (Nat.ne_of_lt hDlt) ys.toArray
  have low : ∀ b o, s.heap.get? b = some o → b ≠ s.heap.objs.size := fun b o e => Nat.ne_of_lt (Heap.lt_size e)
  refine ⟨s.heap.objs.size, List.range (s.heap.objs.size + 1), ys.toArray.size, fun i v => ys.toArray[i]? = some v, fun i h => (h.IsListIter s.heap.objs.size D i ∧ h.IsList D ys.toArray) ∧ ∀ b o, s.heap.get? b = some o → h.get? b = some o, rfl, ?_, ⟨⟨⟨_, Heap.get?_push_size _ rfl, rfl, rfl⟩, hlD.push _⟩, fun b o e => Heap.get?_push_of_some _ e⟩, fun b hb => ?_, by rw [List.size_toArray]; omega, ?_, ?_⟩
  · exact {
      sub := fun b hb => by rw [List.mem_singleton.mp hb]; exact List.mem_range.mpr (Nat.lt_succ_self _)
      frame := fun i h h' st k => by
        refine ⟨⟨st.1.1.at fun o e => k _ (List.mem_range.mpr (Nat.lt_succ_self _)) o e, st.1.2.at fun o e => k _ (List.mem_range.mpr (Nat.lt_succ_of_lt hDlt)) o e⟩, fun b o e => ?_⟩
        exact k b (List.mem_range.mpr (Nat.lt_succ_of_lt (Heap.lt_size e))) o (st.2 b o e)
      item := fun i s' Q' E' hi st hq => W.item i s' Q' E' hi st.1 fun v h' tk hP st' k => hq v h' tk hP ⟨st', fun b o e => k b o (by simpa using low b o e) (st.2 b o e)⟩ k
      done := fun s' Q' E' st hq => W.done s' Q' E' st.1 hq
      self := fun i s' Q' E' st hq => W.self i s' Q' E' st.1 hq }
  · show b < (s.heap.push _).objs.size
    rw [Heap.size_push]
    exact List.mem_range.mp hb
  · intro k i j vi vj s' Q' E' st hi hj hq
    obtain ⟨hi', a, vs, n, rfl, hm, hb⟩ := hget i vi (by simpa using hi)
    obtain ⟨hj', c, ws, n', rfl, hm', hb'⟩ := hget j vj (by simpa using hj)
    refine LT.rc_list_lt hb hb' hu ⟨_, st.2 _ _ (N _ hm).1, rfl, _, rfl⟩ ⟨_, st.2 _ _ (N _ hm').1, rfl, _, rfl⟩ ?_
    have e1 : pss.getD i [] = pss[i] := by simp [hi']
    have e2 : pss.getD j [] = pss[j] := by simp [hj']
    rw [e1, e2] at hq
    exact hq
  · intro v h' tk hP k
    have hn : ys.toArray.size - 1 = pss.length - 1 := by rw [List.size_toArray, hyl]
    rw [hn] at hP
    obtain ⟨hb, _, hbest⟩ := best_min (pss := pss) (bt := fun i j => LT.ltL (lets (pss.getD i [])) (lets (pss.getD j []))) (fun i j hi hj => by
      have e1 : pss.getD i [] = pss[i] := by simp [hi]
      have e2 : pss.getD j [] = pss[j] := by simp [hj]
      simp only [e1, e2]
      exact lt_lets (hf _ (List.getElem_mem hi)).1 (hf _ (List.getElem_mem hj)).1) (pss.length - 1) (by omega)
    obtain ⟨hi', a, vs, n, rfl, hm, hbv⟩ := hget _ v (by simpa using hP)
    refine hQ a vs n _ h' tk hm hbv (List.getElem_mem hi') (fun q hq => ?_) fun b o e => k b o (by simpa using low b o e) (Heap.get?_push_of_some _ e)
    obtain ⟨j, hj, rfl⟩ := List.getElem_of_mem hq
    exact hbest j hj (by omega)
end

theorem best_max {pss : List (List Nat)} {bt : Nat → Nat → Bool} (hbt : ∀ i j (hi : i < pss.length) (hj : j < pss.length), bt i j = decide (pss[j] < pss[i])) :
    ∀ k (hk : k < pss.length), ∃ hb : argBest bt k < pss.length, argBest bt k ≤ k ∧ ∀ j (hj : j < pss.length), j ≤ k → ¬ pss[argBest bt k] < pss[j] := by
  intro k
  induction k with
  | zero =>
    intro hk
    refine ⟨hk, Nat.le_refl _, fun j hj hjk => ?_⟩
    obtain rfl : j = 0 := by omega
    exact List.lt_irrefl _
  | succ k ih =>
    intro hk
    obtain ⟨hb, hle, hbest⟩ := ih (by omega)
    have e : argBest bt (k + 1) = if bt (k + 1) (argBest bt k) then k + 1 else argBest bt k := rfl
    have hq := hbt (k + 1) (argBest bt k) hk hb
    by_cases hc : pss[argBest bt k] < pss[k + 1]
    · rw [hq, decide_eq_true hc, if_pos rfl] at e
      refine ⟨by rw [e]; exact hk, by rw [e]; exact Nat.le_refl _, fun j hj hjk => ?_⟩
      simp only [e]
      by_cases h1 : j = k + 1
      · subst h1; exact List.lt_irrefl _
      · exact fun hlt => hbest j hj (by omega) (List.lt_trans hc hlt)
    · rw [hq, decide_eq_false hc, if_neg (by decide)] at e
      refine ⟨by rw [e]; exact hb, by rw [e]; omega, fun j hj hjk => ?_⟩
      simp only [e]
      by_cases h1 : j = k + 1
      · subst h1; exact hc
      · exact hbest j hj (by omega)
section
variable {prog : Program} {w : World} {A : Around} {E : Value → Shared → Prop} {s : Shared} {h₀ : Heap} {L : Addr} {m : Str → Option Value} {news : List (Addr × Obj)}
theorem max_lists {D : Addr} {ys : List Value} {pss : List (List Nat)} {nD : Nat} {Q : Value → Shared → Prop} (hh : A.handled = none) (hu : A.in1.units < cLine) (N : News h₀ L s.heap news) (hD : (D, listOf ys.toArray nD) ∈ news) (hL : LLs news ys (pss.map lets)) (hf : ∀ ds ∈ pss, Fig ds) (h0 : pss ≠ [])
    (hQ : ∀ a vs n p h' tk, (a, listOf vs n) ∈ news → BM.BAre vs.toList (lets p) → p ∈ pss → (∀ q ∈ pss, ¬ p < q) → (∀ b o, s.heap.get? b = some o → h'.get? b = some o) → Q (.ref a) { s with heap := h', toks := tk }) :
    wpAny (model prog w) A (call (.builtin "max") [.ref D]) Q E s := by
  have hyl : ys.length = pss.length := by rw [hL.length, List.length_map]
  have hlD : s.heap.IsList D ys.toArray := ⟨_, (N _ hD).1, rfl, _, rfl⟩
  have hpos : 0 < pss.length := List.length_pos_iff.mpr h0
  have hget : ∀ i v, ys[i]? = some v → ∃ (hi : i < pss.length), ∃ a vs n, v = .ref a ∧ (a, listOf vs n) ∈ news ∧ BM.BAre vs.toList (lets pss[i]) := fun i v hv => by
    obtain ⟨bs, a, vs, n, e, rfl, hm, hb⟩ := hL.get i v hv
    have hi : i < pss.length := by
      have := (List.getElem?_eq_some_iff.mp hv).1
      omega
    rw [List.getElem?_map, List.getElem?_eq_getElem hi] at e
    cases e
    exact ⟨hi, a, vs, n, rfl, hm, hb⟩
  refine LT.max_call (bt := fun i j => LT.gtL (lets (pss.getD i [])) (lets (pss.getD j []))) ?_
  refine wpAny_pyIter_list hlD ?_
  have hDlt : D < s.heap.objs.size := Heap.lt_size (N _ hD).1
  have W := Walks.list (prog := prog) (w := w) (A := A.in1) hh s.heap.objs.size D (Nat.ne_of_lt hDlt) ys.toArray
  have low : ∀ b o, s.heap.get? b = some o → b ≠ s.heap.objs.size := fun b o e => Nat.ne_of_lt (Heap.lt_size e)
  refine ⟨s.heap.objs.size, List.range (s.heap.objs.size + 1), ys.toArray.size, fun i v => ys.toArray[i]? = some v, fun i h => (h.IsListIter s.heap.objs.size D i ∧ h.IsList D ys.toArray) ∧ ∀ b o, s.heap.get? b = some o → h.get? b = some o, rfl, ?_, ⟨⟨⟨_, Heap.get?_push_size _ rfl, rfl, rfl⟩, hlD.push _⟩, fun b o e => Heap.get?_push_of_some _ e⟩, fun b hb => ?_, by rw [List.size_toArray]; omega, ?_, ?_⟩
  · exact {
      sub := fun b hb => by rw [List.mem_singleton.mp hb]; exact List.mem_range.mpr (Nat.lt_succ_self _)
      frame := fun i h h' st k => by
        refine ⟨⟨st.1.1.at fun o e => k _ (List.mem_range.mpr (Nat.lt_succ_self _)) o e, st.1.2.at fun o e => k _ (List.mem_range.mpr (Nat.lt_succ_of_lt hDlt)) o e⟩, fun b o e => ?_⟩
        exact k b (List.mem_range.mpr (Nat.lt_succ_of_lt (Heap.lt_size e))) o (st.2 b o e)
      item := fun i s' Q' E' hi st hq => W.item i s' Q' E' hi st.1 fun v h' tk hP st' k => hq v h' tk hP ⟨st', fun b o e => k b o (by simpa using low b o e) (st.2 b o e)⟩ k
      done := fun s' Q' E' st hq => W.done s' Q' E' st.1 hq
      self := fun i s' Q' E' st hq => W.self i s' Q' E' st.1 hq }
  · show b < (s.heap.push _).objs.size
    rw [Heap.size_push]
    exact List.mem_range.mp hb
  · intro k i j vi vj s' Q' E' st hi hj hq
    obtain ⟨hi', a, vs, n, rfl, hm, hb⟩ := hget i vi (by simpa using hi)
    obtain ⟨hj', c, ws, n', rfl, hm', hb'⟩ := hget j vj (by simpa using hj)
    refine LT.rc_list_gt hb hb' hu ⟨_, st.2 _ _ (N _ hm).1, rfl, _, rfl⟩ ⟨_, st.2 _ _ (N _ hm').1, rfl, _, rfl⟩ ?_
    have e1 : pss.getD i [] = pss[i] := by simp [hi']
    have e2 : pss.getD j [] = pss[j] := by simp [hj']
    rw [e1, e2] at hq
    exact hq
  · intro v h' tk hP k
    have hn : ys.toArray.size - 1 = pss.length - 1 := by rw [List.size_toArray, hyl]
    rw [hn] at hP
    obtain ⟨hb, _, hbest⟩ := best_max (pss := pss) (bt := fun i j => LT.gtL (lets (pss.getD i [])) (lets (pss.getD j []))) (fun i j hi hj => by
      have e1 : pss.getD i [] = pss[i] := by simp [hi]
      have e2 : pss.getD j [] = pss[j] := by simp [hj]
      simp only [e1, e2]
      exact gt_lets (hf _ (List.getElem_mem hi)).1 (hf _ (List.getElem_mem hj)).1) (pss.length - 1) (by omega)
    obtain ⟨hi', a, vs, n, rfl, hm, hbv⟩ := hget _ v (by simpa using hP)
    refine hQ a vs n _ h' tk hm hbv (List.getElem_mem hi') (fun q hq => ?_) fun b o e => k b o (by simpa using low b o e) (Heap.get?_push_of_some _ e)
    obtain ⟨j, hj, rfl⟩ := List.getElem_of_mem hq
    exact hbest j hj (by omega)
end

end Mine
end
section
open PySem PySem.W PySem.Calls PyProof.Rows
set_option Elab.async false
set_option maxRecDepth 100000
namespace Mine
namespace FI
section
variable {prog : Program} {w : World} {A : Around} {E : Value → Shared → Prop} {s : Shared} {h₀ : Heap} {env : Env} {target : Expr} {body : List Stmt} {Q : Flow → Shared → Prop}
theorem all_mono : ∀ {ws : List (Addr × String)} {k k' : List (Addr × Obj) → Prop}, AllObj ws k → (∀ its, k its → k' its) → AllObj ws k'
  | [], _, _, h, f => f _ h
  | _ :: _, _, _, h, f => fun o ho => all_mono (h o ho) fun _ x => f _ x
theorem items_inv {xs : List Itm} {ws : List (Addr × String)} {keep : List (Addr × Obj)} (J : Nat → (Str → Option Value) → List (Addr × Obj) → Prop)
    (turn : ∀ i a v m news h tk, xs[i]? = some a → a.Is v h → J i m news → Fr h₀ env.locals h m → AllObj ws (fun its => News h₀ env.locals h (its ++ news) →
      wpAny (model prog w) A (assign target env v) (fun _ s₂ => wpAny (model prog w) A (execs body env) (UnrPostW h₀ env.locals { s with heap := h, toks := tk } its (fun m' n' => SubL keep n' ∧ J (i + 1) m' n') Q) E s₂) E { s with heap := h, toks := tk }))
    (fin : ∀ m news h tk, J xs.length m news → Fr h₀ env.locals h m → News h₀ env.locals h news → Q .next { s with heap := h, toks := tk }) :
    ∀ (k i : Nat) (m : Str → Option Value) (news : List (Addr × Obj)), i + k = xs.length → J i m news → ItemsRest prog w A E h₀ env target body Q s ws keep (xs.drop i) m news
  | 0, i, m, news, e, hj => by
    rw [Nat.add_zero] at e
    rw [List.drop_eq_nil_of_le (Nat.le_of_eq e.symm)]
    exact ItemsRest.zero fun h tk F N => fin m news h tk (e ▸ hj) F N
  | k + 1, i, m, news, e, hj => by
    have hi : i < xs.length := by omega
    rw [List.drop_eq_getElem_cons hi]
    intro v h tk hv F
    refine all_mono (turn i xs[i] v m news h tk (List.getElem?_eq_getElem hi) hv hj F) fun its hk N => ?_
    refine wpAny_mono (hk N) (fun _ s₂ h₂ => wpAny_mono h₂ (fun f s₃ h₃ => ?_) fun _ _ x => x) fun _ _ x => x
    have go : UnrEndW h₀ env.locals { s with heap := h, toks := tk } its (fun m' n' => SubL keep n' ∧ J (i + 1) m' n') s₃ → UnrEndW h₀ env.locals { s with heap := h, toks := tk } its (fun m' n' => SubL keep n' ∧ ItemsRest prog w A E h₀ env target body Q s ws keep (xs.drop (i + 1)) m' n') s₃ := by
      rintro ⟨h', tk', m', n', e', F', N', off, hs, hj'⟩
      exact ⟨h', tk', m', n', e', F', N', off, hs, items_inv J turn fin k (i + 1) m' n' (by omega) hj'⟩
    cases f with
    | ret v => exact h₃
    | brk => exact h₃
    | next => exact go h₃
    | cont => exact go h₃
/-- a turn's end: the frame's map as J says, the ledger as it was -/
def Turn (h₀ : Heap) (L : Addr) (s : Shared) (led : List (Addr × Obj)) (J : (Str → Option Value) → Prop) (Q : Flow → Shared → Prop) (f : Flow) (s₂ : Shared) : Prop :=
  match f with
  | .ret v => Q (.ret v) s₂
  | .brk => Q .next s₂
  | _ => ∃ h' tk m', s₂ = { s with heap := h', toks := tk } ∧ Fr h₀ L h' m' ∧ News h₀ L h' led ∧ J m'
theorem turn_next {L : Addr} {led all : List (Addr × Obj)} {J : (Str → Option Value) → Prop} {h' : Heap} {tk : Nat} {m' : Str → Option Value} (F : Fr h₀ L h' m') (N : News h₀ L h' all) (sub : ∀ p ∈ led, p ∈ all) (hj : J m') : Turn h₀ L s led J Q .next { s with heap := h', toks := tk } :=
  ⟨h', tk, m', rfl, F, fun p hp => N p (sub p hp), hj⟩
theorem turn_cont {L : Addr} {led all : List (Addr × Obj)} {J : (Str → Option Value) → Prop} {h' : Heap} {tk : Nat} {m' : Str → Option Value} (F : Fr h₀ L h' m') (N : News h₀ L h' all) (sub : ∀ p ∈ led, p ∈ all) (hj : J m') : Turn h₀ L s led J Q .cont { s with heap := h', toks := tk } :=
  ⟨h', tk, m', rfl, F, fun p hp => N p (sub p hp), hj⟩
theorem turn_brk {L : Addr} {led : List (Addr × Obj)} {J : (Str → Option Value) → Prop} {s₂ : Shared} (h : Q .next s₂) : Turn h₀ L s led J Q .brk s₂ := h
theorem turn_ret {L : Addr} {led : List (Addr × Obj)} {J : (Str → Option Value) → Prop} {v : Value} {s₂ : Shared} (h : Q (.ret v) s₂) : Turn h₀ L s led J Q (.ret v) s₂ := h
theorem enum_inv {elts : List Expr} {kk : Nat} {pos : Pos} {l : Addr} {vs : List Value} {n : Nat} {m₀ : Str → Option Value} {news : List (Addr × Obj)}
    (hh : A.handled = none) (F : Fr h₀ env.locals s.heap m₀) (N : News h₀ env.locals s.heap news) (hm : (l, listOf vs.toArray n) ∈ news) (J : Nat → (Str → Option Value) → Prop) (h0 : J 0 m₀)
    (turn : ∀ i v I oE oI T t m h tk, vs[i]? = some v → J i m → (∀ p ∈ news, p.1 < I) → IsTup h T #[.int ((i : Nat) : Int) t, v] → Fr h₀ env.locals h m → News h₀ env.locals h ((I + 1, oE) :: (I, oI) :: news) →
      wpAny (model prog w) A (assign (.Tuple elts kk pos) env (.ref T)) (fun _ s₂ => wpAny (model prog w) A (execs body env) (Turn h₀ env.locals { s with heap := h, toks := tk } ((I + 1, oE) :: (I, oI) :: news) (J (i + 1)) Q) E s₂) E { s with heap := h, toks := tk })
    (fin : ∀ m h tk, J vs.length m → Fr h₀ env.locals h m → News h₀ env.locals h news → Q .next { s with heap := h, toks := tk }) :
    wpAny (model prog w) A (call (.type "enumerate") [.ref l]) (fun xv s₁ => wpAny (model prog w) A (pyIter xv) (fun it s₂ => TurnsAt prog w A h₀ env (.Tuple elts kk pos) body Q E it s₂) E s₁) E s := by
  refine ktu_enum hh F N hm rfl rfl rfl fun I hI => ?_
  have hlen := enumItems_length vs 0
  refine items_inv (xs := enumItems 0 vs) (fun i m nw => nw = news ∧ J i m) ?_ ?_ _ 0 m₀ news (Nat.zero_add _) ⟨rfl, h0⟩
  · rintro i a v m nw h tk ha hv ⟨rfl, hj⟩ F'
    have hi : i < vs.length := by
      have := (List.getElem?_eq_some_iff.mp ha).1
      omega
    have ha' := enumItems_get vs 0 i (List.getElem?_eq_getElem hi)
    rw [ha] at ha'
    cases ha'
    obtain ⟨T, t, rfl, hT⟩ := hv
    rw [Nat.zero_add] at hT
    intro oE hoE oI hoI N'
    refine wpAny_mono (turn i _ I oE oI T t m h tk (List.getElem?_eq_getElem hi) hj hI hT F' N') (fun _ s₂ h₂ => wpAny_mono h₂ (fun f s₃ h₃ => ?_) fun _ _ x => x) fun _ _ x => x
    have go : (∃ h' tk' m', s₃ = { s with heap := h', toks := tk' } ∧ Fr h₀ env.locals h' m' ∧ News h₀ env.locals h' ((I + 1, oE) :: (I, oI) :: nw) ∧ J (i + 1) m') →
        UnrEndW h₀ env.locals { s with heap := h, toks := tk } [(I + 1, oE), (I, oI)] (fun m' n' => SubL [(l, listOf vs.toArray n)] n' ∧ n' = nw ∧ J (i + 1) m') s₃ := by
      rintro ⟨h', tk', m', rfl, F₃, N₃, hj₃⟩
      refine ⟨h', tk', m', nw, rfl, F₃, N₃, fun p hp q hq => ?_, ⟨hm, trivial⟩, rfl, hj₃⟩
      have := hI p hp
      have hq' : q.1 = I + 1 ∨ q.1 = I := by
        rcases List.mem_cons.mp hq with rfl | hq
        · exact .inl rfl
        · rw [List.mem_singleton.mp hq]; exact .inr rfl
      rcases hq' with e | e <;> rw [e]
      · exact Nat.ne_of_lt (Nat.lt_succ_of_lt this)
      · exact Nat.ne_of_lt this
    cases f with
    | ret v => exact h₃
    | brk => exact h₃
    | next => exact go h₃
    | cont => exact go h₃
  · rintro m nw h tk ⟨rfl, hj⟩ F' N'
    exact fin m h tk (hlen ▸ hj) F' N'
/-- a for over a list of the ledger: by the turn's number, the map and the ledger -/
def TurnL (h₀ : Heap) (L : Addr) (s : Shared) (it : Addr × Obj) (J : (Str → Option Value) → List (Addr × Obj) → Prop) (Q : Flow → Shared → Prop) (f : Flow) (s₂ : Shared) : Prop :=
  match f with
  | .ret v => Q (.ret v) s₂
  | .brk => Q .next s₂
  | _ => ∃ h' tk m' nw, s₂ = { s with heap := h', toks := tk } ∧ Fr h₀ L h' m' ∧ News h₀ L h' (it :: nw) ∧ (∀ p ∈ nw, p.1 ≠ it.1) ∧ J m' nw
theorem turnL_next {L : Addr} {it : Addr × Obj} {nw all : List (Addr × Obj)} {J : (Str → Option Value) → List (Addr × Obj) → Prop} {h' : Heap} {tk : Nat} {m' : Str → Option Value} (F : Fr h₀ L h' m') (N : News h₀ L h' all) (sub : ∀ p ∈ it :: nw, p ∈ all) (off : ∀ p ∈ nw, p.1 ≠ it.1) (hj : J m' nw) : TurnL h₀ L s it J Q .next { s with heap := h', toks := tk } :=
  ⟨h', tk, m', nw, rfl, F, fun p hp => N p (sub p hp), off, hj⟩
theorem turnL_cont {L : Addr} {it : Addr × Obj} {nw all : List (Addr × Obj)} {J : (Str → Option Value) → List (Addr × Obj) → Prop} {h' : Heap} {tk : Nat} {m' : Str → Option Value} (F : Fr h₀ L h' m') (N : News h₀ L h' all) (sub : ∀ p ∈ it :: nw, p ∈ all) (off : ∀ p ∈ nw, p.1 ≠ it.1) (hj : J m' nw) : TurnL h₀ L s it J Q .cont { s with heap := h', toks := tk } :=
  ⟨h', tk, m', nw, rfl, F, fun p hp => N p (sub p hp), off, hj⟩
theorem list_inv {l : Addr} {vs : List Value} {n : Nat} {m₀ : Str → Option Value} {news : List (Addr × Obj)}
    (hh : A.handled = none) (F : Fr h₀ env.locals s.heap m₀) (N : News h₀ env.locals s.heap news) (hm : (l, listOf vs.toArray n) ∈ news) (J : Nat → (Str → Option Value) → List (Addr × Obj) → Prop) (h0 : J 0 m₀ news)
    (hJ : ∀ i m nw, J i m nw → (l, listOf vs.toArray n) ∈ nw)
    (turn : ∀ i v I oI m nw h tk, vs[i]? = some v → J i m nw → (∀ p ∈ news, p.1 < I) → Fr h₀ env.locals h m → News h₀ env.locals h ((I, oI) :: nw) →
      wpAny (model prog w) A (assign target env v) (fun _ s₂ => wpAny (model prog w) A (execs body env) (TurnL h₀ env.locals { s with heap := h, toks := tk } (I, oI) (J (i + 1)) Q) E s₂) E { s with heap := h, toks := tk })
    (fin : ∀ m nw h tk, J vs.length m nw → Fr h₀ env.locals h m → News h₀ env.locals h nw → Q .next { s with heap := h, toks := tk }) :
    wpAny (model prog w) A (pyIter (.ref l)) (fun it s₂ => TurnsAt prog w A h₀ env target body Q E it s₂) E s := by
  refine iter_listTurns hh F N hm rfl rfl fun I hI => ?_
  have hlen : (vs.map Itm.val).length = vs.length := List.length_map ..
  refine items_inv (xs := vs.map .val) (fun i m nw => J i m nw) ?_ ?_ _ 0 m₀ news (Nat.zero_add _) h0
  · rintro i a v m nw h tk ha hv hj F'
    rw [List.getElem?_map] at ha
    obtain ⟨v', hv', rfl⟩ := Option.map_eq_some_iff.mp ha
    have e : v = v' := hv
    subst e
    intro oI hoI N'
    refine wpAny_mono (turn i _ I oI m nw h tk hv' hj hI F' N') (fun _ s₂ h₂ => wpAny_mono h₂ (fun f s₃ h₃ => ?_) fun _ _ x => x) fun _ _ x => x
    have go : (∃ h' tk' m' nw', s₃ = { s with heap := h', toks := tk' } ∧ Fr h₀ env.locals h' m' ∧ News h₀ env.locals h' ((I, oI) :: nw') ∧ (∀ p ∈ nw', p.1 ≠ I) ∧ J (i + 1) m' nw') →
        UnrEndW h₀ env.locals { s with heap := h, toks := tk } [(I, oI)] (fun m' n' => SubL [(l, listOf vs.toArray n)] n' ∧ J (i + 1) m' n') s₃ := by
      rintro ⟨h', tk', m', nw', rfl, F₃, N₃, off, hj₃⟩
      exact ⟨h', tk', m', nw', rfl, F₃, N₃, fun p hp q hq => by rw [List.mem_singleton.mp hq]; exact off p hp, ⟨hJ _ _ _ hj₃, trivial⟩, hj₃⟩
    cases f with
    | ret v => exact h₃
    | brk => exact h₃
    | next => exact go h₃
    | cont => exact go h₃
  · intro m nw h tk hj F' N'
    exact fin m nw h tk (hlen ▸ hj) F' N'
theorem two_names {m m₀ : Str → Option Value} {x y : Str} (h : ∀ z, z ≠ x → z ≠ y → m z = m₀ z) : m = fun z => if z = x then m x else if z = y then m y else m₀ z := by
  funext z
  by_cases hx : z = x
  · rw [if_pos hx, hx]
  · rw [if_neg hx]
    by_cases hy : z = y
    · rw [if_pos hy, hy]
    · rw [if_neg hy, h z hx hy]
theorem enum_names {elts : List Expr} {kk : Nat} {pos : Pos} {l : Addr} {vs : List Value} {n : Nat} {m₀ : Str → Option Value} {news : List (Addr × Obj)} (x y : Str)
    (hh : A.handled = none) (F : Fr h₀ env.locals s.heap m₀) (N : News h₀ env.locals s.heap news) (hm : (l, listOf vs.toArray n) ∈ news) (J : Nat → Prop) (h0 : J 0)
    (turn : ∀ i v I oE oI T t o1 o2 h tk, vs[i]? = some v → J i → (∀ p ∈ news, p.1 < I) → IsTup h T #[.int ((i : Nat) : Int) t, v] → Fr h₀ env.locals h (fun z => if z = x then o1 else if z = y then o2 else m₀ z) → News h₀ env.locals h ((I + 1, oE) :: (I, oI) :: news) →
      wpAny (model prog w) A (assign (.Tuple elts kk pos) env (.ref T)) (fun _ s₂ => wpAny (model prog w) A (execs body env) (Turn h₀ env.locals { s with heap := h, toks := tk } ((I + 1, oE) :: (I, oI) :: news) (fun m' => (∀ z, z ≠ x → z ≠ y → m' z = m₀ z) ∧ J (i + 1)) Q) E s₂) E { s with heap := h, toks := tk })
    (fin : ∀ o1 o2 h tk, J vs.length → Fr h₀ env.locals h (fun z => if z = x then o1 else if z = y then o2 else m₀ z) → News h₀ env.locals h news → Q .next { s with heap := h, toks := tk }) :
    wpAny (model prog w) A (call (.type "enumerate") [.ref l]) (fun xv s₁ => wpAny (model prog w) A (pyIter xv) (fun it s₂ => TurnsAt prog w A h₀ env (.Tuple elts kk pos) body Q E it s₂) E s₁) E s := by
  refine enum_inv hh F N hm (fun i m => (∀ z, z ≠ x → z ≠ y → m z = m₀ z) ∧ J i) ⟨fun _ _ _ => rfl, h0⟩ (fun i v I oE oI T t m h tk hv hj hI hT F' N' => ?_) fun m h tk hj F' N' => ?_
  · have e := two_names hj.1
    rw [e] at F'
    exact turn i v I oE oI T t _ _ h tk hv hj.2 hI hT F' N'
  · have e := two_names hj.1
    rw [e] at F'
    exact fin _ _ h tk hj.2 F' N'
end
end FI
/-- the figures that two lists begin with alike -/
def lcp : List Nat → List Nat → List Nat
  | [], _ => []
  | _ :: _, [] => []
  | x :: xs, y :: ys => if x = y then x :: lcp xs ys else []
theorem lcp_all : ∀ {xs ys : List Nat}, (∀ i, i < xs.length → xs[i]? = ys[i]?) → lcp xs ys = xs
  | [], _, _ => rfl
  | x :: xs, [], h => by have := h 0 (by simp); simp at this
  | x :: xs, y :: ys, h => by
    have h0 := h 0 (by simp)
    simp at h0
    subst h0
    simp only [lcp, if_true]
    rw [lcp_all fun i hi => by simpa using h (i + 1) (by simpa using hi)]
theorem lcp_cut : ∀ {xs ys : List Nat} {i : Nat}, (∀ j, j < i → xs[j]? = ys[j]?) → i < xs.length → xs[i]? ≠ ys[i]? → lcp xs ys = xs.take i
  | [], _, _, _, hi, _ => by simp at hi
  | x :: xs, [], 0, _, _, _ => rfl
  | x :: xs, [], i + 1, h, _, _ => by have := h 0 (by omega); simp at this
  | x :: xs, y :: ys, 0, _, _, hn => by
    have : x ≠ y := by simpa using hn
    simp [lcp, this]
  | x :: xs, y :: ys, i + 1, h, hi, hn => by
    have h0 := h 0 (by omega)
    simp at h0
    subst h0
    simp only [lcp, if_true, List.take_succ_cons]
    rw [lcp_cut (i := i) (fun j hj => by simpa using h (j + 1) (by omega)) (by simpa using hi) (by simpa using hn)]
theorem not_short : ∀ {xs ys : List Nat} {i : Nat}, (∀ j, j < i → xs[j]? = ys[j]?) → i < xs.length → ¬ ys < xs → i < ys.length
  | [], _, _, _, hi, _ => by simp at hi
  | x :: xs, [], i, _, _, hn => absurd (List.nil_lt_cons x xs) hn
  | x :: xs, y :: ys, 0, _, _, _ => by simp
  | x :: xs, y :: ys, i + 1, h, hi, hn => by
    have h0 := h 0 (by omega)
    simp at h0
    subst h0
    have := not_short (xs := xs) (ys := ys) (i := i) (fun j hj => by simpa using h (j + 1) (by omega)) (by simpa using hi) fun hlt => hn (List.cons_lt_cons_iff.mpr (.inr ⟨rfl, hlt⟩))
    simpa using this
theorem BM.BAre.take {vs : List Value} {bs : List (List UInt8)} (h : BM.BAre vs bs) : ∀ i : Nat, BM.BAre (vs.take i) (bs.take i) := by
  induction h with
  | nil => intro i; simp only [List.take_nil]; exact .nil
  | cons h ih =>
    intro i
    cases i with
    | zero => exact .nil
    | succ i => simp only [List.take_succ_cons]; exact .cons (ih i)
end Mine
end
section
open PySem PySem.W PySem.Calls PyProof.Rows
set_option Elab.async false
set_option maxRecDepth 100000
namespace Mine
namespace FI
section
variable {prog : Program} {w : World} {A : Around} {E : Value → Shared → Prop} {s : Shared} {h₀ : Heap} {env : Env} {body : List Stmt} {Q : Flow → Shared → Prop}
/-- the ints of a range as a loop's items -/
def rangeItems (n : Nat) : List Itm := (List.range n).map fun i => .tok fun t => .int ((i : Nat) : Int) t
theorem rangeItems_get {n i : Nat} (h : i < n) : (rangeItems n)[i]? = some (.tok fun t => .int ((i : Nat) : Int) t) := by simp [rangeItems, h]
theorem range_inv {x : Str} {px : Pos} {r : Addr} {t u v : Tok} {n : Nat} {m₀ : Str → Option Value} {news : List (Addr × Obj)}
    (hh : A.handled = none) (F : Fr h₀ env.locals s.heap m₀) (N : News h₀ env.locals s.heap news) (hr : IsRange s.heap r 0 (n : Int) 1 t u v) (hn : n ≤ 1000) (J : Nat → (Str → Option Value) → List (Addr × Obj) → Prop) (h0 : J 0 m₀ news)
    (turn : ∀ i I oI m nw t h tk, i < n → J i m nw → (∀ p ∈ news, p.1 < I) → Fr h₀ env.locals h m → News h₀ env.locals h ((I, oI) :: nw) →
      wpAny (model prog w) A (assign (.Name x px) env (.int ((i : Nat) : Int) t)) (fun _ s₂ => wpAny (model prog w) A (execs body env) (TurnL h₀ env.locals { s with heap := h, toks := tk } (I, oI) (J (i + 1)) Q) E s₂) E { s with heap := h, toks := tk })
    (fin : ∀ m nw h tk, J n m nw → Fr h₀ env.locals h m → News h₀ env.locals h nw → Q .next { s with heap := h, toks := tk }) :
    wpAny (model prog w) A (pyIter (.ref r)) (fun it s₂ => TurnsAt prog w A h₀ env (.Name x px) body Q E it s₂) E s := by
  have hsm : Builtin.Range.small 0 (n : Int) 1 = true := small_one (by omega) (by omega) (by omega) (by omega)
  have hsz : Builtin.Range.rangeSize 0 (n : Int) 1 = (n : Int) := by simp only [Builtin.Range.rangeSize]; split <;> omega
  refine wpAny_pyIter_range hr hsm ?_
  rw [hsz]
  have hLs : env.locals < s.heap.objs.size := F.ns.lt
  have hlen : (rangeItems n).length = n := by simp [rangeItems]
  refine ktu_core (tk0 := s.toks) (keep := []) (ws := [(s.heap.objs.size, "range_iterator")]) (xs := rangeItems n) (KTurns.ofWalks ((Walks.range hh s.heap.objs.size 0 1 n).bound) fun i v s Q E st q => wpAny_pure q) hlen.symm ?_ ?_ ?_ (fun b hb => by simpa using hb) (fun b hb => .inl (by simpa using hb)) ?_ (fun p hp hI => ?_) ?_ (F.push _) (fun p hp => ⟨Heap.get?_push_of_some _ (N p hp).1, (N p hp).2⟩) trivial ?_
  · rintro i v h ⟨hi, t, rfl⟩
    refine ⟨_, rangeItems_get hi, t, ?_⟩
    show Value.int (0 + (i : Int) * 1) t = Value.int (i : Int) t
    rw [Int.mul_one, Int.zero_add]
  · intro i h st
    have st' : h.get? s.heap.objs.size = some _ := st
    exact ⟨[(s.heap.objs.size, _)], ⟨⟨rfl, rfl⟩, trivial⟩, fun p hp => by rw [List.mem_singleton.mp hp]; exact st'⟩
  · intro b hb
    have hb' : b = s.heap.objs.size := by simpa using hb
    rw [hb']
    exact ⟨List.mem_singleton.mpr rfl, next_is_new F⟩
  · intro hI
    have hI' : env.locals = s.heap.objs.size := by simpa using hI
    exact absurd hLs (hI' ▸ Nat.lt_irrefl _)
  · have hI' : p.1 = s.heap.objs.size := by simpa using hI
    exact absurd (Heap.lt_size (N p hp).1) (hI' ▸ Nat.lt_irrefl _)
  · show IsRangeIter _ _ _ _ _
    simpa using Heap.get?_push_size _ rfl
  · refine items_inv (xs := rangeItems n) J ?_ ?_ _ 0 m₀ news (Nat.zero_add _) h0
    · rintro i a v m nw h tk ha hv hj F'
      have hi : i < n := by
        have := (List.getElem?_eq_some_iff.mp ha).1
        omega
      rw [rangeItems_get hi] at ha
      cases ha
      obtain ⟨t, rfl⟩ := hv
      intro oI hoI N'
      refine wpAny_mono (turn i _ oI m nw t h tk hi hj (fun p hp => Heap.lt_size (N p hp).1) F' N') (fun _ s₂ h₂ => wpAny_mono h₂ (fun f s₃ h₃ => ?_) fun _ _ x => x) fun _ _ x => x
      have go : (∃ h' tk' m' nw', s₃ = { s with heap := h', toks := tk' } ∧ Fr h₀ env.locals h' m' ∧ News h₀ env.locals h' ((s.heap.objs.size, oI) :: nw') ∧ (∀ p ∈ nw', p.1 ≠ s.heap.objs.size) ∧ J (i + 1) m' nw') →
          UnrEndW h₀ env.locals { s with heap := h, toks := tk } [(s.heap.objs.size, oI)] (fun m' n' => SubL [] n' ∧ J (i + 1) m' n') s₃ := by
        rintro ⟨h', tk', m', nw', rfl, F₃, N₃, off, hj₃⟩
        exact ⟨h', tk', m', nw', rfl, F₃, N₃, fun p hp q hq => by rw [List.mem_singleton.mp hq]; exact off p hp, trivial, hj₃⟩
      cases f with
      | ret v => exact h₃
      | brk => exact h₃
      | next => exact go h₃
      | cont => exact go h₃
    · intro m nw h tk hj F' N'
      exact fin m nw h tk (hlen ▸ hj) F' N'
/-- a map that is another one but for some names -/
def ovr (m m₀ : Str → Option Value) : List Str → Str → Option Value
  | [] => m₀
  | x :: L => fun z => if z = x then m x else ovr m m₀ L z
theorem ovr_eq {m m₀ : Str → Option Value} : ∀ {L : List Str}, (∀ z, z ∉ L → m z = m₀ z) → m = ovr m m₀ L
  | L, h => by
    funext z
    induction L with
    | nil => exact h z (by simp)
    | cons x L ih =>
      show m z = if z = x then m x else ovr m m₀ L z
      by_cases hx : z = x
      · rw [if_pos hx, hx]
      · rw [if_neg hx]
        by_cases hz : z ∈ L
        · clear ih h
          induction L with
          | nil => cases hz
          | cons y L ih2 =>
            show m z = if z = y then m y else ovr m m₀ L z
            by_cases hy : z = y
            · rw [if_pos hy, hy]
            · rw [if_neg hy]
              exact ih2 ((List.mem_cons.mp hz).resolve_left hy)
        · have e := h z (fun hm => (List.mem_cons.mp hm).elim hx hz)
          rw [e]
          clear ih h e
          induction L with
          | nil => rfl
          | cons y L ih2 =>
            show m₀ z = if z = y then m y else ovr m m₀ L z
            rw [if_neg (fun e : z = y => hz (by rw [e]; exact .head _))]
            exact ih2 fun hm => hz (.tail _ hm)
theorem range_names {x : Str} {px : Pos} {r : Addr} {t u v : Tok} {n : Nat} {m₀ : Str → Option Value} {news : List (Addr × Obj)} (L : List Str)
    (hh : A.handled = none) (F : Fr h₀ env.locals s.heap m₀) (N : News h₀ env.locals s.heap news) (hr : IsRange s.heap r 0 (n : Int) 1 t u v) (hn : n ≤ 1000) (J : Nat → (Str → Option Value) → List (Addr × Obj) → Prop) (h0 : J 0 m₀ news)
    (turn : ∀ i I oI m nw t h tk, i < n → J i m nw → (∀ p ∈ news, p.1 < I) → Fr h₀ env.locals h (ovr m m₀ L) → News h₀ env.locals h ((I, oI) :: nw) →
      wpAny (model prog w) A (assign (.Name x px) env (.int ((i : Nat) : Int) t)) (fun _ s₂ => wpAny (model prog w) A (execs body env) (TurnL h₀ env.locals { s with heap := h, toks := tk } (I, oI) (fun m' nw' => (∀ z, z ∉ L → m' z = m₀ z) ∧ J (i + 1) m' nw') Q) E s₂) E { s with heap := h, toks := tk })
    (fin : ∀ m nw h tk, J n m nw → Fr h₀ env.locals h (ovr m m₀ L) → News h₀ env.locals h nw → Q .next { s with heap := h, toks := tk }) :
    wpAny (model prog w) A (pyIter (.ref r)) (fun it s₂ => TurnsAt prog w A h₀ env (.Name x px) body Q E it s₂) E s := by
  refine range_inv hh F N hr hn (fun i m nw => (∀ z, z ∉ L → m z = m₀ z) ∧ J i m nw) ⟨fun _ _ => rfl, h0⟩ (fun i I oI m nw t h tk hi hj hI F' N' => ?_) fun m nw h tk hj F' N' => ?_
  · have e := ovr_eq hj.1
    rw [e] at F'
    exact turn i I oI m nw t h tk hi hj.2 hI F' N'
  · have e := ovr_eq hj.1
    rw [e] at F'
    exact fin m nw h tk hj.2 F' N'
theorem list_names {target : Expr} {l : Addr} {vs : List Value} {n : Nat} {m₀ : Str → Option Value} {news : List (Addr × Obj)} (L : List Str)
    (hh : A.handled = none) (F : Fr h₀ env.locals s.heap m₀) (N : News h₀ env.locals s.heap news) (hm : (l, listOf vs.toArray n) ∈ news) (J : Nat → (Str → Option Value) → List (Addr × Obj) → Prop) (h0 : J 0 m₀ news)
    (hJ : ∀ i m nw, J i m nw → (l, listOf vs.toArray n) ∈ nw)
    (turn : ∀ i v I oI m nw h tk, vs[i]? = some v → J i m nw → (∀ p ∈ news, p.1 < I) → Fr h₀ env.locals h (ovr m m₀ L) → News h₀ env.locals h ((I, oI) :: nw) →
      wpAny (model prog w) A (assign target env v) (fun _ s₂ => wpAny (model prog w) A (execs body env) (TurnL h₀ env.locals { s with heap := h, toks := tk } (I, oI) (fun m' nw' => (∀ z, z ∉ L → m' z = m₀ z) ∧ J (i + 1) m' nw') Q) E s₂) E { s with heap := h, toks := tk })
    (fin : ∀ m nw h tk, J vs.length m nw → Fr h₀ env.locals h (ovr m m₀ L) → News h₀ env.locals h nw → Q .next { s with heap := h, toks := tk }) :
    wpAny (model prog w) A (pyIter (.ref l)) (fun it s₂ => TurnsAt prog w A h₀ env target body Q E it s₂) E s := by
  refine list_inv hh F N hm (fun i m nw => (∀ z, z ∉ L → m z = m₀ z) ∧ J i m nw) ⟨fun _ _ => rfl, h0⟩ (fun i m nw hj => hJ i m nw hj.2) (fun i v I oI m nw h tk hv hj hI F' N' => ?_) fun m nw h tk hj F' N' => ?_
  · have e := ovr_eq hj.1
    rw [e] at F'
    exact turn i v I oI m nw h tk hv hj.2 hI F' N'
  · have e := ovr_eq hj.1
    rw [e] at F'
    exact fin m nw h tk hj.2 F' N'
end
section
variable {prog : Program} {w : World} {A : Around} {E : Value → Shared → Prop} {s : Shared} {h₀ : Heap} {L : Addr} {m : Str → Option Value}
/-- an append to a list of the ledger's that stands behind a loop's iterator -/
theorem appendD {D : Addr} {ys : List Value} {v : Value} {it : Addr × Obj} {news : List (Addr × Obj)} {Q : Value → Shared → Prop} (F : Fr h₀ L s.heap m) (N : News h₀ L s.heap (it :: (D, LCg.lst ys) :: news)) (hI : it.1 ≠ D) (hD : ∀ p ∈ news, p.1 ≠ D) (hz : ys.length ≤ 1000)
    (h : ∀ h', Fr h₀ L h' m → News h₀ L h' (it :: (D, LCg.lst (ys ++ [v])) :: news) → Q .none { s with heap := h' }) : wpAny (model prog w) A (call (.builtin "list.append") [.ref D, v]) Q E s := by
  have zD := N (D, LCg.lst ys) (.tail _ (.head _))
  refine append_at (hsz := by rw [sizeLine_eq, List.size_toArray]; omega) zD.1 fun h' hs' hD' => ?_
  refine h h' (F.change hs' zD.2.1 zD.2.2) fun p hp => ?_
  rcases List.mem_cons.mp hp with rfl | hp
  · exact ⟨hs'.extBut _ _ hI (N _ (.head _)).1, (N _ (.head _)).2⟩
  rcases List.mem_cons.mp hp with rfl | hp
  · exact ⟨hD'.trans (congrArg some (LCg.lst_snoc ys v)), zD.2⟩
  · exact ⟨hs'.extBut _ _ (hD p hp) (N _ (.tail _ (.tail _ hp))).1, (N _ (.tail _ (.tail _ hp))).2⟩
end
end FI
end Mine
end
section
set_option Elab.async false
set_option maxRecDepth 100000
namespace Mine
/-- k figures of q, big end first -/
def fg : Nat → Nat → List Nat
  | 0, _ => []
  | k + 1, q => fg k (q / 16) ++ [q % 16]
theorem fg_len : ∀ (k q : Nat), (fg k q).length = k
  | 0, _ => rfl
  | k + 1, q => by rw [fg, List.length_append, fg_len k]; rfl
theorem fg_lt : ∀ (k q : Nat), ∀ d ∈ fg k q, d < 16
  | 0, _, d, h => by cases h
  | k + 1, q, d, h => by
    rw [fg] at h
    rcases List.mem_append.mp h with h | h
    · exact fg_lt k _ d h
    · rw [List.mem_singleton.mp h]; omega
theorem fg_fig {k : Nat} (h : k ≤ 5) (q : Nat) : Fig (fg k q) := ⟨fg_lt k q, by rw [fg_len]; exact h⟩
theorem fg_drop (k q : Nat) : (fg (k + 1) q).dropLast = fg k (q / 16) := by rw [fg]; simp
theorem hx_fg : ∀ (k q : Nat), q < 16 ^ k → hx (16 ^ k + q) = 1 :: fg k q
  | 0, q, h => by
    obtain rfl : q = 0 := by simpa using h
    show hx 1 = [1]
    rw [hx_pos (by decide), show 1 / 16 = 0 from rfl, hx]
    rfl
  | k + 1, q, h => by
    have h' : q < 16 * 16 ^ k := by rw [Nat.pow_succ] at h; omega
    have e1 : (16 ^ (k + 1) + q) / 16 = 16 ^ k + q / 16 := by rw [Nat.pow_succ]; omega
    have e2 : (16 ^ (k + 1) + q) % 16 = q % 16 := by rw [Nat.pow_succ]; omega
    rw [hx_pos (by have := Nat.pow_pos (n := k + 1) (show 0 < 16 by decide); omega), e1, e2, hx_fg k (q / 16) (by omega), fg]
    rfl
/-- the figures behind the first one -/
def figN (n : Nat) : List Nat := (hx n).tail
theorem figN_eq {k q : Nat} (h : q < 16 ^ k) : figN (16 ^ k + q) = fg k q := by rw [figN, hx_fg k q h]; rfl
/-- a block's size is 16 ^ j -/
def Blk (s : Nat) : Prop := s = 1 ∨ s = 16 ∨ s = 256 ∨ s = 4096
theorem blk_num {a s : Nat} (ha : a < 1048576) (hs : Blk s) : ∃ k q, 2 ≤ k ∧ k ≤ 5 ∧ q < 16 ^ k ∧ (1048576 + a) / s = 16 ^ k + q ∧ 16 ^ (5 - k) = s ∧ q = a / s := by
  rcases hs with rfl | rfl | rfl | rfl
  · exact ⟨5, a, by omega, by omega, by omega, by omega, rfl, by omega⟩
  · exact ⟨4, a / 16, by omega, by omega, by omega, by omega, rfl, by omega⟩
  · exact ⟨3, a / 256, by omega, by omega, by omega, by omega, rfl, by omega⟩
  · exact ⟨2, a / 4096, by omega, by omega, by omega, by omega, rfl, by omega⟩
theorem blk_hx {a s : Nat} (ha : a < 1048576) (hs : Blk s) : hx ((1048576 + a) / s) = 1 :: figN ((1048576 + a) / s) ∧ Fig (figN ((1048576 + a) / s)) ∧ (1048576 + a) / s < 16 ^ 6 := by
  obtain ⟨k, q, h2, h5, hq, e, _⟩ := blk_num ha hs
  rw [e, figN_eq hq]
  refine ⟨hx_fg k q hq, fg_fig h5 q, ?_⟩
  have : 16 ^ k ≤ 16 ^ 5 := Nat.pow_le_pow_right (by decide) h5
  omega
/-- the blocks' words -/
def wantedN : Nat → List Nat → List (List Nat)
  | _, [] => []
  | a, s :: r => figN ((1048576 + a) / s) :: wantedN (a + s) r
theorem wantedN_len : ∀ (a : Nat) (ss : List Nat), (wantedN a ss).length = ss.length
  | _, [] => rfl
  | a, s :: r => by rw [wantedN, List.length_cons, List.length_cons, wantedN_len]
theorem wantedN_get : ∀ (a : Nat) (ss : List Nat) (i s : Nat), ss[i]? = some s → (wantedN a ss)[i]? = some (figN ((1048576 + (a + (ss.take i).sum)) / s))
  | _, [], i, s, h => by simp at h
  | a, s' :: r, 0, s, h => by
    simp at h; subst h
    simp [wantedN]
  | a, s' :: r, i + 1, s, h => by
    simp at h
    rw [wantedN, List.getElem?_cons_succ, wantedN_get (a + s') r i s h, List.take_succ_cons, List.sum_cons]
    congr 4
    omega
theorem fdivN (a s : Nat) : Int.fdiv (1048576 + (a : Int)) (s : Int) = (((1048576 + a) / s : Nat) : Int) := by
  rw [Int.fdiv_eq_ediv_of_nonneg _ (by omega), show (1048576 + (a : Int)) = ((1048576 + a : Nat) : Int) by omega, Int.natCast_ediv]
end Mine
end
section
set_option Elab.async false
set_option maxRecDepth 100000
namespace Mine
theorem lcp_comm : ∀ (x y : List Nat), lcp x y = lcp y x
  | [], [] => rfl
  | [], _ :: _ => rfl
  | _ :: _, [] => rfl
  | x :: xs, y :: ys => by
    by_cases h : x = y
    · subst h; simp only [lcp, if_true]; rw [lcp_comm xs ys]
    · simp only [lcp]; rw [if_neg h, if_neg (fun e => h e.symm)]
theorem lcp_take : ∀ (x y : List Nat), lcp x y = x.take (lcp x y).length
  | [], _ => rfl
  | _ :: _, [] => rfl
  | x :: xs, y :: ys => by
    by_cases h : x = y
    · subst h; simp only [lcp, if_true, List.length_cons, List.take_succ_cons]; rw [← lcp_take xs ys]
    · simp only [lcp]; rw [if_neg h]; rfl
theorem lcp_le : ∀ (x y : List Nat), (lcp x y).length ≤ x.length
  | [], _ => Nat.le_refl _
  | _ :: _, [] => Nat.zero_le _
  | x :: xs, y :: ys => by
    by_cases h : x = y
    · subst h; simp only [lcp, if_true, List.length_cons]; exact Nat.succ_le_succ (lcp_le xs ys)
    · simp only [lcp]; rw [if_neg h]; exact Nat.zero_le _
theorem lcp_full {x y : List Nat} (h : x.length = y.length) (hl : (lcp x y).length = x.length) : x = y := by
  induction x generalizing y with
  | nil => cases y with
    | nil => rfl
    | cons => simp at h
  | cons a x ih => cases y with
    | nil => simp at h
    | cons b y =>
      by_cases e : a = b
      · subst e
        simp only [lcp, if_true, List.length_cons] at hl
        rw [ih (by simpa using h) (by omega)]
      · simp only [lcp] at hl
        rw [if_neg e] at hl
        simp at hl
theorem fg_take : ∀ (k j q : Nat), j ≤ k → (fg k q).take j = fg j (q / 16 ^ (k - j))
  | 0, j, q, h => by
    obtain rfl : j = 0 := by omega
    rfl
  | k + 1, j, q, h => by
    by_cases hj : j = k + 1
    · subst hj
      rw [List.take_of_length_le (by rw [fg_len]; exact Nat.le_refl _), Nat.sub_self, Nat.pow_zero, Nat.div_one]
    · have hjk : j ≤ k := by omega
      rw [fg, List.take_append_of_le_length (by rw [fg_len]; exact hjk), fg_take k j _ hjk, Nat.div_div_eq_div_mul]
      congr 2
      rw [show k + 1 - j = (k - j) + 1 by omega, Nat.pow_succ, Nat.mul_comm]
theorem fg_inj : ∀ (k a b : Nat), a < 16 ^ k → b < 16 ^ k → fg k a = fg k b → a = b
  | 0, a, b, ha, hb, _ => by simp at ha hb; omega
  | k + 1, a, b, ha, hb, h => by
    rw [fg, fg] at h
    obtain ⟨h1, h2⟩ := List.append_inj h (by rw [fg_len, fg_len])
    have := fg_inj k (a / 16) (b / 16) (by rw [Nat.pow_succ] at ha; omega) (by rw [Nat.pow_succ] at hb; omega) h1
    simp at h2
    omega
/-- how many figures of two numbers are alike -/
def cl (a b : Nat) : Nat := (lcp (fg 5 a) (fg 5 b)).length
theorem cl_le {a b : Nat} (ha : a < 1048576) (hb : b < 1048576) (h : a ≠ b) : cl a b ≤ 4 := by
  have h1 := lcp_le (fg 5 a) (fg 5 b)
  rw [fg_len] at h1
  by_cases h5 : cl a b = 5
  · exact absurd (fg_inj 5 a b ha hb (lcp_full (by rw [fg_len, fg_len]) (by rw [fg_len]; exact h5))) h
  · unfold cl at *; omega
theorem lcp_fg (a b : Nat) : lcp (fg 5 a) (fg 5 b) = fg (cl a b) (a / 16 ^ (5 - cl a b)) := by
  have h1 := lcp_le (fg 5 a) (fg 5 b)
  rw [fg_len] at h1
  rw [lcp_take, fg_take 5 _ _ h1]
  rfl
theorem ltr_inj' {a b : Nat} (ha : a < 16) (hb : b < 16) (h : ltr a = ltr b) : a = b := ltr_inj ha hb h
theorem flat_inj : ∀ {x y : List Nat}, (∀ d ∈ x, d < 16) → (∀ d ∈ y, d < 16) → (x.flatMap fun d => [47, ltr d]) = (y.flatMap fun d => [47, ltr d]) → x = y
  | [], [], _, _, _ => rfl
  | [], _ :: _, _, _, h => by simp at h
  | _ :: _, [], _, _, h => by simp at h
  | a :: x, b :: y, hx, hy, h => by
    simp only [List.flatMap_cons, List.cons_append, List.nil_append, List.cons.injEq, true_and] at h
    rw [ltr_inj (hx a (.head _)) (hy b (.head _)) h.1, flat_inj (fun d hd => hx d (.tail _ hd)) (fun d hd => hy d (.tail _ hd)) h.2]
theorem path_inj {x y : List Nat} (hx : ∀ d ∈ x, d < 16) (hy : ∀ d ∈ y, d < 16) (h : pathL x = pathL y) : x = y := by
  cases x with
  | nil => cases y with
    | nil => rfl
    | cons b y => simp [pathL] at h
  | cons a x => cases y with
    | nil => simp [pathL] at h
    | cons b y => exact flat_inj hx hy h
/-- the figures of the folder that is taken at a number: one more than the longer stretch alike -/
def kN (a u o : Nat) : Nat := max (cl a u) (cl a o) + 1
def foundN (u o high : Nat) : Nat → Nat → List (List Nat)
  | 0, _ => []
  | f + 1, a => if high < a then [] else fg (kN a u o) (a / 16 ^ (5 - kN a u o)) :: foundN u o high f (a + 16 ^ (5 - kN a u o))
/-- commonpath of two -/
theorem lcp_two {x y p q : List Nat} (hp : p = x ∨ p = y) (hq : q = x ∨ q = y) (h1 : ∀ r, r = x ∨ r = y → ¬ r < p) (h2 : ∀ r, r = x ∨ r = y → ¬ q < r) : lcp p q = lcp x y := by
  rcases hp with rfl | rfl <;> rcases hq with rfl | rfl
  · have a1 := h1 y (.inr rfl)
    have a2 := h2 y (.inr rfl)
    rw [List.le_antisymm (List.not_lt.mp a1) (List.not_lt.mp a2)]
  · rfl
  · exact lcp_comm _ _
  · have a1 := h1 x (.inl rfl)
    have a2 := h2 x (.inl rfl)
    rw [List.le_antisymm (List.not_lt.mp a1) (List.not_lt.mp a2)]
def meetN (a b : Nat) : Nat := if a = b then a else if b < a then meetN (a / 16) b else meetN a (b / 16)
termination_by a + b
decreasing_by all_goals omega
/-- the blocks' sizes -/
def sizesN (b0 b1 b2 m a0 a1 a2 : Nat) : List Nat := List.replicate b0 1 ++ List.replicate b1 16 ++ List.replicate b2 256 ++ List.replicate m 4096 ++ (List.replicate a2 256 ++ List.replicate a1 16 ++ List.replicate (a0 + 1) 1)
/-- how many of the first folders above a number are in a list -/
def metU (pss : List (List Nat)) (q : Nat) : Nat → Nat
  | 0 => 0
  | i + 1 => metU pss q i + if fg (5 - i) (q / 16 ^ i) ∈ pss then 1 else 0
end Mine
end
section
set_option Elab.async false
set_option maxRecDepth 100000
namespace Mine
/-- what the script draws -/
structure Drawn (b0 b1 b2 a0 a1 a2 q md low high : Nat) : Prop where
  hb0 : b0 ≤ 2
  hb1 : b1 ≤ 2
  hb2 : b2 ≤ 2
  ha0 : a0 ≤ 2
  ha1 : a1 ≤ 2
  ha2 : a2 ≤ 2
  hq : q < 200
  hmd : md ≤ 2
  hl : low = 4096 * (1 + q) - (b0 + 16 * b1 + 256 * b2)
  hh : high = 4096 * (1 + q) + 4096 * md + (a0 + 16 * a1 + 256 * a2)
theorem Drawn.low_ge {b0 b1 b2 a0 a1 a2 q md low high : Nat} (d : Drawn b0 b1 b2 a0 a1 a2 q md low high) : 3550 ≤ low := by
  obtain ⟨h1, h2, h3, _, _, _, _, _, rfl, _⟩ := d; omega
theorem Drawn.le {b0 b1 b2 a0 a1 a2 q md low high : Nat} (d : Drawn b0 b1 b2 a0 a1 a2 q md low high) : low ≤ high := by
  obtain ⟨_, _, _, _, _, _, _, _, rfl, rfl⟩ := d; omega
theorem Drawn.high_le {b0 b1 b2 a0 a1 a2 q md low high : Nat} (d : Drawn b0 b1 b2 a0 a1 a2 q md low high) : high ≤ 827938 := by
  obtain ⟨_, _, _, h4, h5, h6, h7, h8, _, rfl⟩ := d; omega
theorem blk_sizes {b0 b1 b2 md a0 a1 a2 x : Nat} (h : x ∈ sizesN b0 b1 b2 md a0 a1 a2) : Blk x := by
  simp only [sizesN, List.mem_append, List.mem_replicate] at h
  unfold Blk
  omega
theorem sum_sizes {b0 b1 b2 md a0 a1 a2 : Nat} : (sizesN b0 b1 b2 md a0 a1 a2).sum = b0 + 16 * b1 + 256 * b2 + 4096 * md + 256 * a2 + 16 * a1 + a0 + 1 := by
  simp only [sizesN, List.sum_append, List.sum_replicate_nat]
  omega
theorem len_sizes {b0 b1 b2 md a0 a1 a2 : Nat} : (sizesN b0 b1 b2 md a0 a1 a2).length = b0 + b1 + b2 + md + a2 + a1 + a0 + 1 := by
  simp only [sizesN, List.length_append, List.length_replicate]
  omega
theorem Drawn.end_eq {b0 b1 b2 a0 a1 a2 q md low high : Nat} (d : Drawn b0 b1 b2 a0 a1 a2 q md low high) : low + (sizesN b0 b1 b2 md a0 a1 a2).sum = high + 1 := by
  rw [sum_sizes]
  obtain ⟨h1, h2, h3, _, _, _, _, _, rfl, rfl⟩ := d; omega
end Mine
end
section
set_option Elab.async false
set_option maxRecDepth 100000
namespace Mine
/-- the first j figures alike -/
theorem lcp_len_iff : ∀ {x y : List Nat} {j : Nat}, j ≤ x.length → j ≤ y.length → (j ≤ (lcp x y).length ↔ x.take j = y.take j)
  | _, _, 0, _, _ => by simp
  | [], _, j + 1, h, _ => by simp at h
  | _ :: _, [], j + 1, _, h => by simp at h
  | a :: x, b :: y, j + 1, hx, hy => by
    by_cases e : a = b
    · subst e
      simp only [lcp, if_true, List.length_cons, List.take_succ_cons, List.cons.injEq, true_and]
      rw [← lcp_len_iff (x := x) (y := y) (j := j) (by simpa using hx) (by simpa using hy)]
      omega
    · simp only [lcp]
      rw [if_neg e]
      simp [e]
theorem cl_iff {a b j : Nat} (ha : a < 1048576) (hb : b < 1048576) (hj : j ≤ 5) : j ≤ cl a b ↔ a / 16 ^ (5 - j) = b / 16 ^ (5 - j) := by
  unfold cl
  rw [lcp_len_iff (by rw [fg_len]; exact hj) (by rw [fg_len]; exact hj), fg_take 5 j a hj, fg_take 5 j b hj]
  constructor
  · intro h
    have e : 16 ^ 5 = 16 ^ j * 16 ^ (5 - j) := by rw [← Nat.pow_add]; congr 1; omega
    have hp : 0 < 16 ^ (5 - j) := Nat.pow_pos (by decide)
    have h16 : (16 : Nat) ^ 5 = 1048576 := by decide
    refine fg_inj j _ _ ?_ ?_ h
    · exact Nat.div_lt_of_lt_mul (by rw [Nat.mul_comm, ← e, h16]; exact ha)
    · exact Nat.div_lt_of_lt_mul (by rw [Nat.mul_comm, ← e, h16]; exact hb)
  · intro h; rw [h]
/-- the folder taken at a number is the block that holds neither neighbour, its parent one of them -/
theorem kN_eq {a u o k : Nat} (ha : a < 1048576) (hu : u < 1048576) (ho : o < 1048576) (h1 : 1 ≤ k) (h5 : k ≤ 5)
    (nu : a / 16 ^ (5 - k) ≠ u / 16 ^ (5 - k)) (no : a / 16 ^ (5 - k) ≠ o / 16 ^ (5 - k)) (hp : a / 16 ^ (5 - (k - 1)) = u / 16 ^ (5 - (k - 1)) ∨ a / 16 ^ (5 - (k - 1)) = o / 16 ^ (5 - (k - 1))) : kN a u o = k := by
  have c1 := cl_iff ha hu h5
  have c2 := cl_iff ha ho h5
  have c3 := cl_iff ha hu (j := k - 1) (by omega)
  have c4 := cl_iff ha ho (j := k - 1) (by omega)
  have d1 : ¬ k ≤ cl a u := fun h => nu (c1.mp h)
  have d2 : ¬ k ≤ cl a o := fun h => no (c2.mp h)
  have d3 : k - 1 ≤ cl a u ∨ k - 1 ≤ cl a o := hp.elim (fun h => .inl (c3.mpr h)) fun h => .inr (c4.mpr h)
  unfold kN
  omega
/-- the blocks from a number on: each stands upon a multiple of its size, between the neighbours, its parent holds one of them -/
def okS (u o : Nat) : Nat → List Nat → Prop
  | a, [] => a = o
  | a, s :: r => (Blk s ∧ a % s = 0 ∧ u < a ∧ a + s ≤ o ∧ (a / (16 * s) = u / (16 * s) ∨ a / (16 * s) = o / (16 * s))) ∧ okS u o (a + s) r
theorem okS_app {u o : Nat} : ∀ {xs ys : List Nat} {a : Nat}, (∀ i (h : i < xs.length), Blk xs[i] ∧ (a + (xs.take i).sum) % xs[i] = 0 ∧ u < a + (xs.take i).sum ∧ a + (xs.take i).sum + xs[i] ≤ o ∧ ((a + (xs.take i).sum) / (16 * xs[i]) = u / (16 * xs[i]) ∨ (a + (xs.take i).sum) / (16 * xs[i]) = o / (16 * xs[i]))) →
    okS u o (a + xs.sum) ys → okS u o a (xs ++ ys)
  | [], ys, a, _, h => by simpa using h
  | x :: xs, ys, a, hx, h => by
    refine ⟨by have h0 := hx 0 (by simp); simp only [List.take_zero, List.sum_nil, Nat.add_zero, List.getElem_cons_zero] at h0; exact h0, okS_app (fun i hi => ?_) (by rw [List.sum_cons, ← Nat.add_assoc] at h; exact h)⟩
    have := hx (i + 1) (by simpa using hi)
    simp only [List.take_succ_cons, List.sum_cons, List.getElem_cons_succ, ← Nat.add_assoc] at this
    exact this
theorem okS_rep {u o n s a : Nat} {ys : List Nat} (hs : Blk s) (h : ∀ i, i < n → (a + i * s) % s = 0 ∧ u < a + i * s ∧ a + i * s + s ≤ o ∧ ((a + i * s) / (16 * s) = u / (16 * s) ∨ (a + i * s) / (16 * s) = o / (16 * s))) (hr : okS u o (a + n * s) ys) : okS u o a (List.replicate n s ++ ys) := by
  refine okS_app (fun i hi => ?_) (by rw [List.sum_replicate_nat]; exact hr)
  have hi' : i < n := by simpa using hi
  have e : ((List.replicate n s).take i).sum = i * s := by rw [List.take_replicate, List.sum_replicate_nat, Nat.min_eq_left (by omega)]
  rw [e, List.getElem_replicate]
  exact ⟨hs, h i hi'⟩
theorem same_div {d t x y : Nat} (x1 : d * t ≤ x) (x2 : x < d * t + d) (y1 : d * t ≤ y) (y2 : y < d * t + d) : x / d = y / d := by
  have e : ∀ {z}, d * t ≤ z → z < d * t + d → z / d = t := fun {z} h1 h2 =>
    Nat.div_eq_of_lt_le (by rw [Nat.mul_comm]; exact h1) (by rw [Nat.add_mul, Nat.mul_comm, Nat.one_mul]; exact h2)
  rw [e x1 x2, e y1 y2]
theorem mod_zero {a s m : Nat} (h : a = s * m) : a % s = 0 := by rw [h, Nat.mul_mod_right]
theorem ok_all {b0 b1 b2 a0 a1 a2 md low u o t1 t2 t3 : Nat} (hb0 : b0 ≤ 2) (hb1 : b1 ≤ 2) (hb2 : b2 ≤ 2) (ha0 : a0 ≤ 2) (ha1 : a1 ≤ 2) (ha2 : a2 ≤ 2) (hmd : md ≤ 2)
    (h1 : low + b0 = 16 * (t1 + 1)) (h2 : t1 + 1 + b1 = 16 * (t2 + 1)) (h3 : t2 + 1 + b2 = 16 * (t3 + 1)) (hu : u + 1 = low) (ho : o = 4096 * (t3 + 1) + 4096 * md + 256 * a2 + 16 * a1 + a0 + 1) :
    okS u o low (List.replicate b0 1 ++ (List.replicate b1 16 ++ (List.replicate b2 256 ++ (List.replicate md 4096 ++ (List.replicate a2 256 ++ (List.replicate a1 16 ++ (List.replicate (a0 + 1) 1 ++ []))))))) := by
  refine okS_rep (.inl rfl) (fun i hi => ⟨Nat.mod_one _, by omega, by omega, .inl (same_div (t := t1) (by omega) (by omega) (by omega) (by omega))⟩) ?_
  have e1 : low + b0 * 1 = 16 * (t1 + 1) := by omega
  rw [e1]
  refine okS_rep (.inr (.inl rfl)) (fun i hi => ⟨mod_zero (m := t1 + 1 + i) (by omega), by omega, by omega, .inl (same_div (t := t2) (by omega) (by omega) (by omega) (by omega))⟩) ?_
  have e2 : 16 * (t1 + 1) + b1 * 16 = 256 * (t2 + 1) := by omega
  rw [e2]
  refine okS_rep (.inr (.inr (.inl rfl))) (fun i hi => ⟨mod_zero (m := t2 + 1 + i) (by omega), by omega, by omega, .inl (same_div (t := t3) (by omega) (by omega) (by omega) (by omega))⟩) ?_
  have e3 : 256 * (t2 + 1) + b2 * 256 = 4096 * (t3 + 1) := by omega
  rw [e3]
  have hlow : low ≤ 4096 * (t3 + 1) ∧ 4096 * (t3 + 1) ≤ low + 546 := by omega
  clear e1 e2 e3 h1 h2 h3
  refine okS_rep (.inr (.inr (.inr rfl))) (fun i hi => ⟨mod_zero (m := t3 + 1 + i) (by omega), by omega, by omega, ?_⟩) ?_
  · have d1 := Nat.div_add_mod (4096 * (t3 + 1) + i * 4096) (16 * 4096)
    have d2 := Nat.mod_lt (4096 * (t3 + 1) + i * 4096) (show 0 < 16 * 4096 by decide)
    generalize ht : (4096 * (t3 + 1) + i * 4096) / (16 * 4096) = t at d1 ⊢
    rw [← ht]
    by_cases hc : 16 * 4096 * t ≤ u
    · exact .inl (same_div (t := t) (by omega) (by omega) hc (by omega))
    · exact .inr (same_div (t := t) (by omega) (by omega) (by omega) (by omega))
  have e4 : 4096 * (t3 + 1) + md * 4096 = 4096 * (t3 + 1 + md) := by omega
  rw [e4]
  refine okS_rep (.inr (.inr (.inl rfl))) (fun i hi => ⟨mod_zero (m := 16 * (t3 + 1 + md) + i) (by omega), by omega, by omega, .inr (same_div (t := t3 + 1 + md) (by omega) (by omega) (by omega) (by omega))⟩) ?_
  have e5 : 4096 * (t3 + 1 + md) + a2 * 256 = 256 * (16 * (t3 + 1 + md) + a2) := by omega
  rw [e5]
  refine okS_rep (.inr (.inl rfl)) (fun i hi => ⟨mod_zero (m := 16 * (16 * (t3 + 1 + md) + a2) + i) (by omega), by omega, by omega, .inr (same_div (t := 16 * (t3 + 1 + md) + a2) (by omega) (by omega) (by omega) (by omega))⟩) ?_
  have e6 : 256 * (16 * (t3 + 1 + md) + a2) + a1 * 16 = 16 * (16 * (16 * (t3 + 1 + md) + a2) + a1) := by omega
  rw [e6]
  refine okS_rep (.inl rfl) (fun i hi => ⟨Nat.mod_one _, by omega, by omega, .inr (same_div (t := 16 * (16 * (t3 + 1 + md) + a2) + a1) (by omega) (by omega) (by omega) (by omega))⟩) ?_
  show _ = _
  omega
theorem Drawn.ok {b0 b1 b2 a0 a1 a2 q md low high : Nat} (d : Drawn b0 b1 b2 a0 a1 a2 q md low high) : okS (low - 1) (high + 1) low (sizesN b0 b1 b2 md a0 a1 a2) := by
  obtain ⟨hb0, hb1, hb2, ha0, ha1, ha2, hq, hmd, hl, hh⟩ := d
  have e : sizesN b0 b1 b2 md a0 a1 a2 = List.replicate b0 1 ++ (List.replicate b1 16 ++ (List.replicate b2 256 ++ (List.replicate md 4096 ++ (List.replicate a2 256 ++ (List.replicate a1 16 ++ (List.replicate (a0 + 1) 1 ++ [])))))) := by simp [sizesN]
  rw [e]
  exact ok_all (t1 := 256 * (1 + q) - 16 * b2 - b1 - 1) (t2 := 16 * (1 + q) - b2 - 1) (t3 := q) hb0 hb1 hb2 ha0 ha1 ha2 hmd (by omega) (by omega) (by omega) (by omega) (by omega)
theorem blk_pow {s : Nat} (h : Blk s) : ∃ j, j ≤ 3 ∧ s = 16 ^ j := by
  rcases h with rfl | rfl | rfl | rfl
  · exact ⟨0, by omega, rfl⟩
  · exact ⟨1, by omega, rfl⟩
  · exact ⟨2, by omega, rfl⟩
  · exact ⟨3, by omega, rfl⟩
/-- a block's word -/
theorem figN_blk {a j : Nat} (ha : a < 1048576) (hj : j ≤ 3) : figN ((1048576 + a) / 16 ^ j) = fg (5 - j) (a / 16 ^ j) := by
  have hb : Blk (16 ^ j) := by
    have : j = 0 ∨ j = 1 ∨ j = 2 ∨ j = 3 := by omega
    rcases this with rfl | rfl | rfl | rfl
    · exact .inl rfl
    · exact .inr (.inl rfl)
    · exact .inr (.inr (.inl rfl))
    · exact .inr (.inr (.inr rfl))
  obtain ⟨k, q, h2, h5, hq, e, hk, hq2⟩ := blk_num ha hb
  have : 5 - k = j := (Nat.pow_right_inj (by decide : 1 < 16)).mp hk
  rw [e, figN_eq hq, hq2, show 5 - j = k by omega]
theorem found_eq {u o high : Nat} (ho : o = high + 1) (ho2 : o < 1048576) : ∀ (ss : List Nat) (a f : Nat), okS u o a ss → ss.length ≤ f → foundN u o high f a = wantedN a ss
  | [], a, f, h, _ => by
    have h' : a = o := h
    cases f with
    | zero => rfl
    | succ f => rw [foundN, if_pos (by omega)]; rfl
  | s :: r, a, 0, _, hl => by simp at hl
  | s :: r, a, f + 1, ⟨⟨hs, hm, hu, hso, hp⟩, hr⟩, hl => by
    obtain ⟨j, hj, rfl⟩ := blk_pow hs
    have hpos : 0 < 16 ^ j := Nat.pow_pos (by decide)
    have hk : kN a u o = 5 - j := by
      have e1 : 5 - (5 - j) = j := by omega
      have e2 : 5 - (5 - j - 1) = j + 1 := by omega
      refine kN_eq (k := 5 - j) (by omega) (by omega) ho2 (by omega) (by omega) ?_ ?_ ?_
      · rw [e1]
        intro h
        have h1 : a = 16 ^ j * (a / 16 ^ j) := by have := Nat.div_add_mod a (16 ^ j); omega
        have h2 : 16 ^ j * (u / 16 ^ j) ≤ u := Nat.mul_div_le u _
        rw [← h] at h2
        omega
      · rw [e1]
        intro h
        have h1 : (a + 16 ^ j) / 16 ^ j = a / 16 ^ j + 1 := Nat.add_div_right a hpos
        have h2 : (a + 16 ^ j) / 16 ^ j ≤ o / 16 ^ j := Nat.div_le_div_right hso
        omega
      · rw [e2, Nat.pow_succ, Nat.mul_comm]
        exact hp
    rw [foundN, if_neg (by omega), hk, show 5 - (5 - j) = j by omega, wantedN, figN_blk (by omega) hj, found_eq ho ho2 r (a + 16 ^ j) f hr (by simpa using hl)]
theorem okS_le {u o : Nat} : ∀ {ss : List Nat} {a : Nat}, okS u o a ss → a ≤ o
  | [], _, h => Nat.le_of_eq h
  | _ :: _, _, ⟨⟨_, _, _, h, _⟩, _⟩ => by omega
/-- the blocks, each with its first number -/
def blocksN : Nat → List Nat → List (Nat × Nat)
  | _, [] => []
  | a, s :: r => (a, s) :: blocksN (a + s) r
theorem wanted_map : ∀ (ss : List Nat) (a : Nat), wantedN a ss = (blocksN a ss).map fun b => figN ((1048576 + b.1) / b.2)
  | [], _ => rfl
  | s :: r, a => by rw [wantedN, blocksN, List.map_cons, wanted_map r]
theorem blocks_ok {u o : Nat} : ∀ {ss : List Nat} {a : Nat}, okS u o a ss → ∀ b ∈ blocksN a ss, Blk b.2 ∧ b.1 % b.2 = 0 ∧ a ≤ b.1 ∧ b.1 + b.2 ≤ o
  | [], _, _, b, h => by cases h
  | s :: r, a, ⟨⟨hs, hm, _, hso, _⟩, hr⟩, b, hb => by
    rcases List.mem_cons.mp hb with rfl | hb
    · exact ⟨hs, hm, Nat.le_refl _, hso⟩
    · obtain ⟨h1, h2, h3, h4⟩ := blocks_ok hr b hb
      exact ⟨h1, h2, by omega, h4⟩
theorem blocks_first {u o : Nat} : ∀ {ss : List Nat} {a : Nat}, okS u o a ss → ∀ b ∈ blocksN a ss, b.1 = a ∨ ∃ b' ∈ blocksN a ss, b'.1 + b'.2 = b.1
  | [], _, _, b, h => by cases h
  | s :: r, a, ⟨_, hr⟩, b, hb => by
    rcases List.mem_cons.mp hb with rfl | hb
    · exact .inl rfl
    · rcases blocks_first hr b hb with h | ⟨b', h1, h2⟩
      · exact .inr ⟨(a, s), .head _, h.symm⟩
      · exact .inr ⟨b', .tail _ h1, h2⟩
theorem blocks_last {u o : Nat} : ∀ {ss : List Nat} {a : Nat}, okS u o a ss → ∀ b ∈ blocksN a ss, b.1 + b.2 = o ∨ ∃ b' ∈ blocksN a ss, b'.1 = b.1 + b.2
  | [], _, _, b, h => by cases h
  | s :: r, a, ⟨_, hr⟩, b, hb => by
    rcases List.mem_cons.mp hb with rfl | hb
    · cases r with
      | nil => exact .inl hr
      | cons s' r => exact .inr ⟨(a + s, s'), .tail _ (.head _), rfl⟩
    · rcases blocks_last hr b hb with h | ⟨b', h1, h2⟩
      · exact .inl h
      · exact .inr ⟨b', .tail _ h1, h2⟩
theorem blk_fig {u o : Nat} (ho : o ≤ 1048576) {ss : List Nat} {a : Nat} (h : okS u o a ss) : ∀ x ∈ wantedN a ss, Fig x := by
  intro x hx
  rw [wanted_map] at hx
  obtain ⟨b, hb, rfl⟩ := List.mem_map.mp hx
  obtain ⟨h1, _, _, h4⟩ := blocks_ok h b hb
  have : 1 ≤ b.2 := by rcases h1 with h | h | h | h <;> omega
  exact (blk_hx (by omega) h1).2.1
/-- a number's folder of a height is a word of the blocks -/
def has (i n : Nat) : Nat → List Nat → Prop
  | _, [] => False
  | a, s :: r => (s = 16 ^ i ∧ a ≤ n ∧ n < a + s) ∨ has i n (a + s) r
theorem has_ge {i n : Nat} : ∀ {ss : List Nat} {a : Nat}, has i n a ss → a ≤ n
  | _ :: _, _, .inl h => h.2.1
  | _ :: _, _, .inr h => by have := has_ge h; omega
theorem has_iff {u o n i : Nat} (ho : o ≤ 1048576) (hn : n < 1048576) (hi : i < 5) : ∀ {ss : List Nat} {a : Nat}, okS u o a ss → (fg (5 - i) (n / 16 ^ i) ∈ wantedN a ss ↔ has i n a ss)
  | [], a, _ => by simp [wantedN, has]
  | s :: r, a, ⟨⟨hs, hm, hu, hso, _⟩, hr⟩ => by
    rw [wantedN, List.mem_cons, has, has_iff ho hn hi hr]
    obtain ⟨j, hj, rfl⟩ := blk_pow hs
    have hpos : 0 < 16 ^ j := Nat.pow_pos (by decide)
    have ha : a < 1048576 := by omega
    rw [figN_blk ha hj]
    refine or_congr ?_ Iff.rfl
    have hdm := Nat.div_add_mod a (16 ^ j)
    constructor
    · intro h
      have hl := congrArg List.length h
      rw [fg_len, fg_len] at hl
      have hij : i = j := by omega
      subst hij
      have hn' : n / 16 ^ i < 16 ^ (5 - i) := Nat.div_lt_of_lt_mul (by rw [← Nat.pow_add, show i + (5 - i) = 5 by omega]; exact hn)
      have ha' : a / 16 ^ i < 16 ^ (5 - i) := Nat.div_lt_of_lt_mul (by rw [← Nat.pow_add, show i + (5 - i) = 5 by omega]; exact ha)
      have e := fg_inj _ _ _ hn' ha' h
      have h1 := Nat.div_add_mod n (16 ^ i)
      have h2 := Nat.mod_lt n hpos
      rw [e] at h1
      exact ⟨rfl, by omega, by omega⟩
    · rintro ⟨h1, h2, h3⟩
      have hij : j = i := (Nat.pow_right_inj (by decide : 1 < 16)).mp h1
      subst hij
      have e : n / 16 ^ j = a / 16 ^ j := by
        refine Nat.div_eq_of_lt_le ?_ ?_
        · rw [Nat.mul_comm]; omega
        · rw [Nat.add_mul, Nat.mul_comm, Nat.one_mul]; omega
      rw [e]
open Classical in
theorem has_sum {u o n : Nat} : ∀ {ss : List Nat} {a : Nat}, okS u o a ss →
    (if has 0 n a ss then 1 else 0) + (if has 1 n a ss then 1 else 0) + (if has 2 n a ss then 1 else 0) + (if has 3 n a ss then 1 else 0) + (if has 4 n a ss then 1 else 0) = if a ≤ n ∧ n < o then 1 else 0
  | [], a, h => by
    have h' : a = o := h
    rw [if_neg (show ¬ (a ≤ n ∧ n < o) by omega)]
    simp [has]
  | s :: r, a, ⟨⟨hs, hm, hu, hso, _⟩, hr⟩ => by
    have ih := has_sum (n := n) hr
    by_cases hin : a ≤ n ∧ n < a + s
    · have hno : ∀ i, ¬ has i n (a + s) r := fun i h => by have := has_ge h; omega
      rw [if_pos (show a ≤ n ∧ n < o by omega)]
      simp only [has, hno, or_false, hin, and_true]
      rcases hs with rfl | rfl | rfl | rfl <;> simp
    · have hno : ∀ i, ¬ (s = 16 ^ i ∧ a ≤ n ∧ n < a + s) := fun i h => hin h.2
      simp only [has, hno, false_or]
      rw [ih]
      by_cases h1 : a + s ≤ n ∧ n < o
      · rw [if_pos h1, if_pos (by omega)]
      · rw [if_neg h1, if_neg (by omega)]
open Classical in
theorem met_eq {u o n : Nat} (ho : o ≤ 1048576) (hn : n < 1048576) {ss : List Nat} {a : Nat} (h : okS u o a ss) : metU (wantedN a ss) n 5 = if a ≤ n ∧ n < o then 1 else 0 := by
  rw [← has_sum (n := n) h]
  have e : ∀ i, i < 5 → (if fg (5 - i) (n / 16 ^ i) ∈ wantedN a ss then 1 else 0) = (if has i n a ss then 1 else 0 : Nat) := fun i hi => by
    have := has_iff ho hn hi h
    by_cases hh : has i n a ss
    · rw [if_pos hh, if_pos (this.mpr hh)]
    · rw [if_neg hh, if_neg fun q => hh (this.mp q)]
  simp only [metU, Nat.zero_add]
  rw [e 0 (by omega), e 1 (by omega), e 2 (by omega), e 3 (by omega), e 4 (by omega)]
theorem lcp_self : ∀ x : List Nat, lcp x x = x
  | [] => rfl
  | a :: x => by simp only [lcp, if_true]; rw [lcp_self x]
theorem lcp_snoc : ∀ {x y : List Nat} {c d : Nat}, x.length = y.length → x ++ [c] ≠ y ++ [d] → lcp (x ++ [c]) (y ++ [d]) = lcp x y
  | [], [], c, d, _, h => by
    have : c ≠ d := by simpa using h
    simp [lcp, this]
  | [], _ :: _, _, _, h, _ => by simp at h
  | _ :: _, [], _, _, h, _ => by simp at h
  | a :: x, b :: y, c, d, hl, h => by
    by_cases e : a = b
    · subst e
      simp only [List.cons_append, lcp, if_true]
      rw [lcp_snoc (by simpa using hl) (by simpa using h)]
    · simp only [List.cons_append, lcp]
      rw [if_neg e, if_neg e]
theorem lcp_cutoff : ∀ {x y : List Nat} {i j : Nat}, lcp (x.take i) (y.take j) = (lcp x y).take (min i j)
  | [], _, _, _ => by simp [lcp]
  | _ :: _, _, 0, _ => by simp [lcp]
  | a :: x, [], i + 1, j => by simp [lcp]
  | a :: x, b :: y, i + 1, 0 => by simp [lcp]
  | a :: x, b :: y, i + 1, j + 1 => by
    by_cases e : a = b
    · subst e
      simp only [List.take_succ_cons, lcp, if_true]
      rw [lcp_cutoff, show min (i + 1) (j + 1) = min i j + 1 by omega, List.take_succ_cons]
    · simp only [List.take_succ_cons, lcp]
      rw [if_neg e, if_neg e]
      simp
/-- what _law_meet gives for two numbers of the same height -/
theorem meet_fg : ∀ (k a b : Nat), a < 16 ^ k → b < 16 ^ k → a ≤ b → ∃ c z, c ≤ k ∧ z < 16 ^ c ∧ meetN (16 ^ k + a) (16 ^ k + b) = 16 ^ c + z ∧ fg c z = lcp (fg k a) (fg k b)
  | 0, a, b, ha, hb, _ => by
    have h1 : a = 0 := by simpa using ha
    have h2 : b = 0 := by simpa using hb
    subst h1 h2
    exact ⟨0, 0, Nat.le_refl _, by simp, by rw [meetN, if_pos rfl], rfl⟩
  | k + 1, a, b, ha, hb, hab => by
    by_cases e : a = b
    · subst e
      exact ⟨k + 1, a, Nat.le_refl _, ha, by rw [meetN, if_pos rfl], (lcp_self _).symm⟩
    · have hp : (16 : Nat) ^ (k + 1) = 16 * 16 ^ k := by rw [Nat.pow_succ, Nat.mul_comm]
      have hk : 0 < (16 : Nat) ^ k := Nat.pow_pos (by decide)
      have e1 : (16 ^ (k + 1) + b) / 16 = 16 ^ k + b / 16 := by omega
      have e2 : (16 ^ (k + 1) + a) / 16 = 16 ^ k + a / 16 := by omega
      obtain ⟨c, z, h1, h2, h3, h4⟩ := meet_fg k (a / 16) (b / 16) (by omega) (by omega) (by omega)
      refine ⟨c, z, by omega, h2, ?_, ?_⟩
      · rw [meetN, if_neg (by omega), if_neg (by omega), e1, meetN, if_neg (by omega), if_pos (by omega), e2]
        exact h3
      · rw [h4, fg, fg, lcp_snoc (by rw [fg_len, fg_len])]
        intro h
        obtain ⟨q1, q2⟩ := List.append_inj h (by rw [fg_len, fg_len])
        have := fg_inj k (a / 16) (b / 16) (by omega) (by omega) q1
        simp at q2
        omega
/-- of two words the one of the lower block is the lesser -/
theorem take_lt : ∀ {x y : List Nat} {i j : Nat}, x < y → (lcp x y).length < i → (lcp x y).length < j → x.take i < y.take j
  | _, _, 0, _, _, h, _ => by omega
  | _, _, _, 0, _, _, h => by omega
  | [], [], _ + 1, _ + 1, h, _, _ => absurd h (List.lt_irrefl _)
  | [], b :: y, i + 1, j + 1, _, _, _ => by simp only [List.take_nil, List.take_succ_cons]; exact List.nil_lt_cons _ _
  | a :: x, [], _ + 1, _ + 1, h, _, _ => absurd h (List.not_lt_nil _)
  | a :: x, b :: y, i + 1, j + 1, h, hi, hj => by
    simp only [List.take_succ_cons]
    rcases List.cons_lt_cons_iff.mp h with h1 | ⟨rfl, h2⟩
    · exact List.cons_lt_cons_iff.mpr (.inl h1)
    · simp only [lcp, if_true, List.length_cons] at hi hj
      exact List.cons_lt_cons_iff.mpr (.inr ⟨rfl, take_lt h2 (by omega) (by omega)⟩)
theorem fg_mono : ∀ (k a b : Nat), a < 16 ^ k → b < 16 ^ k → a < b → fg k a < fg k b
  | 0, a, b, ha, hb, h => by simp at ha hb; omega
  | k + 1, a, b, ha, hb, h => by
    have hp : (16 : Nat) ^ (k + 1) = 16 * 16 ^ k := by rw [Nat.pow_succ, Nat.mul_comm]
    rw [fg, fg]
    have app : ∀ {x y : List Nat} {u v : List Nat}, x.length = y.length → x < y → x ++ u < y ++ v := by
      intro x y u v hl hxy
      induction x generalizing y with
      | nil => cases y with
        | nil => exact absurd hxy (List.lt_irrefl _)
        | cons => simp at hl
      | cons c x ih => cases y with
        | nil => simp at hl
        | cons d y =>
          rcases List.cons_lt_cons_iff.mp hxy with q | ⟨rfl, q⟩
          · exact List.cons_lt_cons_iff.mpr (.inl q)
          · exact List.cons_lt_cons_iff.mpr (.inr ⟨rfl, ih (by simpa using hl) q⟩)
    have pre : ∀ {x u v : List Nat}, u < v → x ++ u < x ++ v := by
      intro x u v huv
      induction x with
      | nil => exact huv
      | cons c x ih => exact List.cons_lt_cons_iff.mpr (.inr ⟨rfl, ih⟩)
    by_cases e : a / 16 = b / 16
    · rw [e]
      exact pre (List.cons_lt_cons_iff.mpr (.inl (by omega)))
    · exact app (by rw [fg_len, fg_len]) (fg_mono k _ _ (by omega) (by omega) (by omega))
theorem word_take {a j : Nat} (ha : a < 1048576) (hj : j ≤ 3) : figN ((1048576 + a) / 16 ^ j) = (fg 5 a).take (5 - j) := by
  rw [figN_blk ha hj, fg_take 5 (5 - j) a (by omega), show 5 - (5 - j) = j by omega]
theorem word_lt {a1 s1 a2 s2 : Nat} (h1 : Blk s1) (h2 : Blk s2) (m2 : a2 % s2 = 0) (h : a1 + s1 ≤ a2) (ha : a2 < 1048576) : figN ((1048576 + a1) / s1) < figN ((1048576 + a2) / s2) := by
  obtain ⟨j1, hj1, rfl⟩ := blk_pow h1
  obtain ⟨j2, hj2, rfl⟩ := blk_pow h2
  have p1 : 0 < 16 ^ j1 := Nat.pow_pos (by decide)
  have p2 : 0 < 16 ^ j2 := Nat.pow_pos (by decide)
  have ha1 : a1 < 1048576 := by omega
  rw [word_take ha1 hj1, word_take ha hj2]
  refine take_lt (fg_mono 5 a1 a2 ha1 ha (by omega)) ?_ ?_
  · refine Nat.lt_of_not_le fun q => ?_
    have e := (cl_iff (j := 5 - j1) ha1 ha (by omega)).mp q
    rw [show 5 - (5 - j1) = j1 by omega] at e
    have q1 : (a1 + 16 ^ j1) / 16 ^ j1 = a1 / 16 ^ j1 + 1 := Nat.add_div_right a1 p1
    have q2 : (a1 + 16 ^ j1) / 16 ^ j1 ≤ a2 / 16 ^ j1 := Nat.div_le_div_right h
    omega
  · refine Nat.lt_of_not_le fun q => ?_
    have e := (cl_iff (j := 5 - j2) ha1 ha (by omega)).mp q
    rw [show 5 - (5 - j2) = j2 by omega] at e
    have q1 := Nat.div_add_mod a2 (16 ^ j2)
    have q2 := Nat.mul_div_le a1 (16 ^ j2)
    rw [e] at q2
    omega
theorem near {a b t : Nat} (ht : 0 < t) (h : a / t = b / t) : b < a + t := by
  have h1 := Nat.div_add_mod b t
  have h2 := Nat.mod_lt b ht
  have h3 := Nat.mul_div_le a t
  rw [h] at h3
  omega
theorem meet_main {u o high low : Nat} {ss : List Nat} (h : okS u o low ss) (ho : o = high + 1) (ho2 : o < 1048576) {p r : List Nat} (hp : p ∈ wantedN low ss) (hr : r ∈ wantedN low ss) (h1 : ∀ x ∈ wantedN low ss, ¬ x < p) (h2 : ∀ x ∈ wantedN low ss, ¬ r < x) :
    lcp p r = lcp (fg 5 low) (fg 5 high) := by
  rw [wanted_map] at hp hr h1 h2
  obtain ⟨bp, mp, rfl⟩ := List.mem_map.mp hp
  obtain ⟨br, mr, rfl⟩ := List.mem_map.mp hr
  obtain ⟨p1, p2, p3, p4⟩ := blocks_ok h bp mp
  obtain ⟨r1, r2, r3, r4⟩ := blocks_ok h br mr
  have pp : 1 ≤ bp.2 := by rcases p1 with q | q | q | q <;> omega
  have rr : 1 ≤ br.2 := by rcases r1 with q | q | q | q <;> omega
  have ep : bp.1 = low := by
    rcases blocks_first h bp mp with q | ⟨b', m', e'⟩
    · exact q
    · obtain ⟨q1, q2, q3, q4⟩ := blocks_ok h b' m'
      exact absurd (word_lt q1 p1 p2 (Nat.le_of_eq e') (by omega)) (h1 _ (List.mem_map.mpr ⟨b', m', rfl⟩))
  have er : br.1 + br.2 = o := by
    rcases blocks_last h br mr with q | ⟨b', m', e'⟩
    · exact q
    · obtain ⟨q1, q2, q3, q4⟩ := blocks_ok h b' m'
      exact absurd (word_lt r1 q1 q2 (Nat.le_of_eq e'.symm) (by omega)) (h2 _ (List.mem_map.mpr ⟨b', m', rfl⟩))
  obtain ⟨s1, hs1, e1⟩ := blk_pow p1
  obtain ⟨s2, hs2, e2⟩ := blk_pow r1
  have q1 : 0 < 16 ^ s1 := Nat.pow_pos (by decide)
  have q2 : 0 < 16 ^ s2 := Nat.pow_pos (by decide)
  rw [e1] at p4
  rw [e2] at er r2
  have hlow : low < 1048576 := by omega
  have hhigh : high < 1048576 := by omega
  have eq2 : br.1 / 16 ^ s2 = high / 16 ^ s2 := by
    have w1 := Nat.div_add_mod br.1 (16 ^ s2)
    symm
    refine Nat.div_eq_of_lt_le ?_ ?_
    · rw [Nat.mul_comm]; omega
    · rw [Nat.add_mul, Nat.mul_comm, Nat.one_mul]; omega
  have w2 : figN ((1048576 + br.1) / br.2) = (fg 5 high).take (5 - s2) := by
    rw [e2, figN_blk (by omega) hs2, eq2, fg_take 5 (5 - s2) high (by omega), show 5 - (5 - s2) = s2 by omega]
  rw [w2, e1, ep, word_take hlow hs1, lcp_cutoff]
  refine List.take_of_length_le ?_
  have c5 := lcp_le (fg 5 low) (fg 5 high)
  rw [fg_len] at c5
  have g : ∀ s, s ≤ 3 → low + 16 ^ s ≤ high + 1 → cl low high ≤ 5 - s := fun s hs hle => by
    refine Nat.le_of_not_lt fun q => ?_
    cases s with
    | zero => unfold cl at q; omega
    | succ s =>
      have e := (cl_iff (j := 5 - s) hlow hhigh (by omega)).mp (by omega)
      rw [show 5 - (5 - s) = s by omega] at e
      have hpos : 0 < 16 ^ s := Nat.pow_pos (by decide)
      have := near hpos e
      have hp : (16 : Nat) ^ (s + 1) = 16 * 16 ^ s := by rw [Nat.pow_succ, Nat.mul_comm]
      omega
  have g1 := g s1 hs1 (by omega)
  have g2 := g s2 hs2 (by omega)
  unfold cl at g1 g2
  omega
theorem Drawn.found {b0 b1 b2 a0 a1 a2 q md low high : Nat} (d : Drawn b0 b1 b2 a0 a1 a2 q md low high) : foundN (low - 1) (high + 1) high 16 low = wantedN low (sizesN b0 b1 b2 md a0 a1 a2) := by
  refine found_eq rfl ?_ _ _ _ d.ok ?_
  · have := d.high_le; omega
  · rw [len_sizes]
    obtain ⟨_, _, _, _, _, _, _, _, _, _⟩ := d
    omega
theorem Drawn.fig {b0 b1 b2 a0 a1 a2 q md low high : Nat} (d : Drawn b0 b1 b2 a0 a1 a2 q md low high) : ∀ x ∈ wantedN low (sizesN b0 b1 b2 md a0 a1 a2), Fig x :=
  blk_fig (by have := d.high_le; omega) d.ok
theorem Drawn.meet {b0 b1 b2 a0 a1 a2 q md low high : Nat} (d : Drawn b0 b1 b2 a0 a1 a2 q md low high) : hx (meetN (1048576 + low) (1048576 + high)) = 1 :: figN (meetN (1048576 + low) (1048576 + high)) ∧ meetN (1048576 + low) (1048576 + high) < 16 ^ 6 ∧
    ∀ p r, p ∈ wantedN low (sizesN b0 b1 b2 md a0 a1 a2) → r ∈ wantedN low (sizesN b0 b1 b2 md a0 a1 a2) → (∀ x ∈ wantedN low (sizesN b0 b1 b2 md a0 a1 a2), ¬ x < p) → (∀ x ∈ wantedN low (sizesN b0 b1 b2 md a0 a1 a2), ¬ r < x) → lcp p r = figN (meetN (1048576 + low) (1048576 + high)) := by
  have h1 := d.high_le
  have h2 := d.le
  obtain ⟨c, z, hc, hz, e1, e2⟩ := meet_fg 5 low high (by omega) (by omega) h2
  have e1' : meetN (1048576 + low) (1048576 + high) = 16 ^ c + z := e1
  rw [e1', figN_eq hz]
  refine ⟨hx_fg c z hz, ?_, fun p r hp hr hm hM => ?_⟩
  · have : (16 : Nat) ^ c ≤ 16 ^ 5 := Nat.pow_le_pow_right (by decide) hc
    omega
  · rw [e2]
    exact meet_main d.ok rfl (by omega) hp hr hm hM
theorem Drawn.met {b0 b1 b2 a0 a1 a2 q md low high : Nat} (d : Drawn b0 b1 b2 a0 a1 a2 q md low high) {n : Nat} (hn : n < 1048576) : metU (wantedN low (sizesN b0 b1 b2 md a0 a1 a2)) n 5 = if low ≤ n ∧ n ≤ high then 1 else 0 := by
  rw [met_eq (by have := d.high_le; omega) hn d.ok]
  by_cases h : low ≤ n ∧ n ≤ high
  · rw [if_pos h, if_pos (by omega)]
  · rw [if_neg h, if_neg (by omega)]
end Mine
end
section
open PySem PySem.W PyProof.Rows
set_option Elab.async false
set_option maxRecDepth 100000
namespace Mine
theorem filled : (PySem.Challenge.rw_pd0070_01.row.prog = PySem.Challenge.rw_pd0070_01.row.prog) ∧ (∀ w : World, ∀ h, (Mine.kap w.params).In h → True) := by
  k_fill
  exact ⟨rfl, fun _ _ _ => trivial⟩
local macro_rules | `(tactic| ksw_same) => `(tactic| (intro z h2 h3; (simp only [List.forall_mem_cons, List.not_mem_nil, false_implies, implies_true, and_true, ne_eq] at h2); (simp only [List.contains_cons, List.contains_nil, Bool.or_false, Bool.or_eq_false_iff, beq_eq_false_iff_ne, ne_eq] at h3); (simp [h2, h3, kstB]; done)))
local macro_rules | `(tactic| k_steps) => `(tactic| repeat' (first | (k_unfold; (try dsimp only)) | (k_end; wrow_close) | ((fail_if_success (with_reducible show wpAny _ _ (exec (Stmt.While _ _ _ _) _) _ _ _)); (fail_if_success (with_reducible show wpAny _ _ (exec (Stmt.For _ _ _ _ _) _) _ _ _)); (fail_if_success (with_reducible show wpAny _ _ (call (Value.ref _) _) _ _ _)); (fail_if_success (with_reducible show wpAny _ _ (eval (Expr.ListComp _ _ _ _) _) _ _ _)); (fail_if_success (with_reducible show wpAny _ _ (exec (Stmt.Assign _ (Expr.ListComp _ _ _ _) _) _) _ _ _)); (fail_if_success (with_reducible show LCg.CompSrc _ _ _ _ _ _ _ _ _ _ _ _ _ _)); (fail_if_success (with_reducible show LCg.CompEnd _ _ _ _ _ _ _ _ _ _ _ _ _ _)); (first | walk1 | (dsimp only; walk1))) | (leave1; walk_say "STEP leave1"; try dsimp only) | fail "no step"))
local macro_rules | `(tactic| cell_enter) => `(tactic| (refine' code_defC ?k1 ?k2 ?k3 ?k4 ?k5 ?kA ?kF ?kK ?k6 ?k7 ?k8 ?k9 ?kB ?kD ?_ ?c2 ?c3 ?c4; (case kA => exact rfl); (case kF => exact rfl); (case kK => assumption); (case k1 => k_asm); (case k2 => k_asm); (case k3 => k_asm); (case k4 => k_asm); (case k5 => k_asm); (case k6 => k_is); (case k7 => k_is); (case k8 => ktr_room); (case k9 => exact BindsTo.of_eq rfl); (case kB => exact rfl); (case kD => decide +kernel); (case c2 => exact rfl); (case c3 => exact rfl); (case c4 => exact rfl); k_whole; intro g' L' h' tk' cells' FG' F' N' Y' B' X' T' l1; (have l1a := fun p hp => Nat.lt_succ_of_lt (l1 p hp)); (have l1b := fun p hp => Nat.lt_succ_of_lt (l1a p hp)); (have l1c := fun p hp => Nat.lt_succ_of_lt (l1b p hp)); k_cells Y'; (try simp only [List.cons_append, List.nil_append] at N'); (try dsimp only); (try k_lift B'); (try k_fold)))
local macro_rules | `(tactic| k_all) => `(tactic| kst_allNe)
local macro_rules | `(tactic| walk_at "getMethod bytes") => `(tactic| (first | (with_reducible refine BM.get_join ?_) | (with_reducible refine BM.get_split ?_) | (with_reducible refine BM.get_rfind ?_) | (with_reducible refine BM.get_rstrip ?_) | (with_reducible refine BM.get_count ?_) | (with_reducible refine BM.get_starts ?_)))
section
theorem ap_pick {q : Nat} (h : q < 16) : KBy.picked #[65, 66, 67, 68, 69, 70, 71, 72, 73, 74, 75, 76, 77, 78, 79, 80] (some (q : Int)) (some ((q : Int) + 1)) = #[ltr q] := by
  have e : ∀ q : Fin 16, KBy.picked #[65, 66, 67, 68, 69, 70, 71, 72, 73, 74, 75, 76, 77, 78, 79, 80] (some ((q.val : Nat) : Int)) (some (((q.val : Nat) : Int) + 1)) = #[ltr q.val] := by decide +kernel
  exact e ⟨q, h⟩

set_option maxHeartbeats 4000000 in
theorem int2ap {w : World} {mean : ExcName → Option Value} {mg mb : Str → Option Value} {dp un : Nat} {gd : Option (List Code)} {cn : Str} {cs : Scope} {a : Addr} {ccd : Value} {cl : List (Str × Addr)} {outer : List Env} {A₀ : Around} {base h₀ : Heap} {L : Addr} {m : Str → Option Value} {news : List (Addr × Obj)} {s : Shared} {Q E : Value → Shared → Prop} {n : Int} {tn : Tok} (hn : n.natAbs < 16 ^ 6) (S : Site w mean mg mb 1 dp un cs A₀ base outer h₀ L m news s.heap)
    (hret : ∀ (t : Tok) (h' : Heap) (tk' : Nat), Fr h₀ L h' m → News h₀ L h' news → Q (.bytes ((hx n.natAbs).map ltr).toArray t) { s with heap := h', toks := tk' }) :
    wpAny (model PySem.Challenge.rw_pd0070_01.row.prog w) (ktrTop dp un gd cn cs L a ccd cl outer) (call (.ref 127) [.int n tn]) Q E s := by
  obtain ⟨B, F, X, N, T, hk, hd, hu⟩ := S
  refine wpAny_call ?_
  k_dflt cell_enter
  k_steps
  rename Fr _ _ _ _ => F1
  rename News _ _ _ _ => N1
  have e : (if n < 0 then -n else n) = (n.natAbs : Int) := by split <;> omega
  rw [e] at F1
  refine' ksw_while (σ := Nat × List Nat × Tok × Tok) (fun _ => news) (fun c => [(Str.ofString "num", .int (c.1 : Int) c.2.2.1), (Str.ofString "val", .bytes (c.2.1.map ltr).toArray c.2.2.2)]) (fun _ => True) [Str.ofString "num", Str.ofString "mod", Str.ofString "val"]
     (fun c => hx c.1 ++ c.2.1 = hx n.natAbs) (fun c => c.1) (n.natAbs, [], _, _) F1 N1 trivial ?a ?b ?c
  case a => kst_all
  case b => simp
  rintro ⟨q, ds, t1, t2⟩ u h tk - hP F2 N2
  dsimp only at hP F2 N2
  clear F1 N1
  k_steps
  · with_reducible rename Fr _ _ _ _ => F'
    with_reducible rename News _ _ _ _ => N'
    refine KBc.slice_K (s := ⟨_, _, _, _, _⟩) F' N' rfl (by constructor) (by constructor) (by decide) ?_
    intro h3 t3 k3 F3 N3 _
    have e1 : Int.fmod (q : Int) 16 = ((q % 16 : Nat) : Int) := by rw [Int.fmod_eq_emod_of_nonneg _ (by decide)]; omega
    have e2 : Int.fdiv (q : Int) 16 = ((q / 16 : Nat) : Int) := by rw [Int.fdiv_eq_ediv_of_nonneg _ (by decide)]; omega
    rw [e1, ap_pick (by omega)]
    rw [e1, e2] at F3
    k_steps
    have hlen : ds.length ≤ 6 := by
      have h6 := hx_len 6 _ hn
      rw [← hP, List.length_append] at h6
      omega
    dsimp only
    refine KBy.add_bytes (by simp; omega) fun t4 k4 => ?_
    rw [show #[ltr (q % 16)] ++ (List.map ltr ds).toArray = (List.map ltr (q % 16 :: ds)).toArray by simp]
    k_steps
    refine ksw_end (q / 16, q % 16 :: ds, _, _) (by assumption) (by assumption) (fun p hp => .tail _ hp) trivial (by kst_all) (by ksw_same) ?_ ?_
    · dsimp only
      rw [← hP, hx_pos (n := q) (by omega), List.append_assoc]; rfl
    · dsimp only
      omega
  · have hq : q = 0 := by omega
    subst hq
    rw [show ds = hx n.natAbs by rw [← hP, hx]; rfl]
    exact hret _ _ _ (by assumption) (by assumption)
theorem pick_head {x : UInt8} {r : List UInt8} : KBy.picked (x :: r).toArray none (some 1) = [x].toArray := by
  rw [KBc.picked_eq]
  have e : ∀ k : Nat, clipAt (k + 1) 1 = 1 := fun k => by rw [show (1 : Int) = ((1 : Nat) : Int) from rfl, clipAt_nat]; omega
  simp [e]
theorem pick_at {x : UInt8} {r : List UInt8} {i : Nat} (h : i < r.length) : KBy.picked (x :: r).toArray (some (1 + (i : Int))) (some (1 + (i : Int) + 1)) = [r[i]].toArray := by
  rw [KBc.picked_eq]
  have e1 : ∀ k : Nat, i < k → clipAt (k + 1) (1 + (i : Int)) = i + 1 := fun k hk => by rw [show (1 + (i : Int)) = ((i + 1 : Nat) : Int) by omega, clipAt_nat]; omega
  have e2 : ∀ k : Nat, i < k → clipAt (k + 1) (1 + (i : Int) + 1) = i + 2 := fun k hk => by rw [show (1 + (i : Int) + 1) = ((i + 2 : Nat) : Int) by omega, clipAt_nat]; omega
  simp only [Option.elim, List.size_toArray, List.length_cons, e1 _ h, e2 _ h]
  rw [show i + 2 - (i + 1) = 1 by omega]
  simp only [List.drop_succ_cons]
  rw [List.drop_eq_getElem_cons h]
  rfl
theorem ones_sum (ds : List Nat) : ((ds.map fun d => [ltr d]).map List.length).sum = ds.length := by
  induction ds with
  | nil => rfl
  | cons a l ih => rw [List.map_cons, List.map_cons, List.sum_cons, ih, List.length_cons, List.length_cons, List.length_nil]; omega
theorem path_join (ds : List Nat) : ([47] : List UInt8).toArray ++ BM.joinL [47].toArray (ds.map fun d => [ltr d]) = (pathL ds).toArray := by
  apply Array.ext'
  rw [Array.toList_append]
  cases ds with
  | nil => rfl
  | cons d ds =>
    rw [List.map_cons, BM.joinL_cons]
    simp [pathL, List.flatMap_map]
theorem path_join_size (ds : List Nat) : (BM.joinL [47].toArray (ds.map fun d => [ltr d])).size ≤ 2 * ds.length := by
  cases ds with
  | nil => simp [BM.joinL_nil]
  | cons d ds =>
    rw [← Array.length_toList, List.map_cons, BM.joinL_cons]
    have : ∀ l : List Nat, (l.flatMap fun d => [(47 : UInt8), ltr d]).length = 2 * l.length := fun l => by
      induction l with
      | nil => rfl
      | cons a l ih => rw [List.flatMap_cons, List.length_append, ih]; simp; omega
    have h := this ds
    simp only [List.flatMap_map, List.length_append, List.length_cons, List.length_nil]
    simp only [List.cons_append, List.nil_append]
    omega
set_option maxHeartbeats 4000000 in
theorem place {w : World} {mean : ExcName → Option Value} {mg mb : Str → Option Value} {dp un : Nat} {gd : Option (List Code)} {cn : Str} {cs : Scope} {a : Addr} {ccd : Value} {cl : List (Str × Addr)} {outer : List Env} {A₀ : Around} {base h₀ : Heap} {L : Addr} {m : Str → Option Value} {news : List (Addr × Obj)} {s : Shared} {Q E : Value → Shared → Prop} {n : Int} {tn : Tok} (hn : n.natAbs < 16 ^ 6) {ds : List Nat} (hds : hx n.natAbs = 1 :: ds) (S : Site w mean mg mb 2 dp un cs A₀ base outer h₀ L m news s.heap)
    (hret : ∀ (t : Tok) (h' : Heap) (tk' : Nat), Fr h₀ L h' m → News h₀ L h' news → Q (.bytes (pathL ds).toArray t) { s with heap := h', toks := tk' }) :
    wpAny (model PySem.Challenge.rw_pd0070_01.row.prog w) (ktrTop dp un gd cn cs L a ccd cl outer) (call (.ref 132) [.int n tn]) Q E s := by
  obtain ⟨B, F, X, N, T, hk, hd, hu⟩ := S
  have hlen := hx_len 6 _ hn
  rw [hds, List.length_cons] at hlen
  refine wpAny_call ?_
  k_dflt cell_enter
  k_steps
  refine int2ap hn ⟨by k_asm, by k_asm, by k_asm, by k_asm, by k_asm, by first | exact rfl | assumption, by ktr_room, by ktr_units⟩ ?_
  intro t1 h1 tk1 F1 N1
  rw [hds, List.map_cons]
  k_steps
  with_reducible rename Fr _ _ _ _ => F'
  with_reducible rename News _ _ _ _ => N'
  refine KBc.slice_K (s := ⟨_, _, _, _, _⟩) F' N' rfl (by constructor) (by constructor) (by simp [KBw.ints_length]; omega) ?_
  intro h3 t3 k3 F3 N3 _
  rw [pick_head]
  k_steps
  with_reducible rename Fr _ _ _ _ => F4
  with_reducible rename News _ _ _ _ => N4
  with_unfolding_all refine LCg.ListComp_U F4 (by rfl) (by decide) (by rfl) (by decide) (by rfl) ?_
  k_steps
  refine len_bytes (by simp; omega) ?_
  rw [show (ltr 1 :: List.map ltr ds).toArray.size = ds.length + 1 by simp]
  k_steps
  refine LCg.CompSrc.range (n := ds.length) rfl (by k_asm) (by k_asm) (by k_asm) ?sm ?rn ?sz (fun g => comp_keep (fun i ys => BM.BAre ys ((ds.take i).map (fun d => [ltr d]))) ?turn .nil ?fin)
  case sm => exact small_one (by omega) (by omega) (by omega) (by omega)
  case rn => simp only [Builtin.Range.rangeSize]; split <;> omega
  case sz => rw [sizeLine_eq]; omega
  case turn =>
    intro i ys v I oI C oC D m₂ h tk E' hi hJ hP hC hx F5 N5 hoff hne
    obtain ⟨tv, rfl⟩ := hP
    k_steps
    refine KBc.slice_K (s := ⟨_, _, _, _, _⟩) F5 N5 rfl (by constructor) (by constructor) (by simp [KBw.ints_length]; omega) ?_
    intro h6 t6 k6 F6 N6 _
    rw [pick_at (by simpa using hi)]
    refine LCg.CompEnd.intro F6 N6 _ (fun p hp => hp) hoff trivial ⟨rfl, ?_⟩
    rw [List.take_add_one, List.getElem?_eq_getElem hi, List.map_append]
    simpa using hJ.snoc
  case fin =>
    intro ys hJ
    rw [List.take_length] at hJ
    k_steps
    refine BM.join (News.isList (by k_asm) (by k_mem)) hJ ?z1 ?z2 ?_
    case z1 => have := path_join_size ds; omega
    case z2 =>
      rw [ones_sum]; simp; omega
    intro t7 k7
    refine KBy.add_bytes (by have := path_join_size ds; simp; omega) fun t8 k8 => ?_
    rw [path_join]
    k_steps
    exact hret _ _ _ (by assumption) (cb_drop (by assumption) fun p hp => .tail _ (.tail _ hp))
end
section
local macro_rules | `(tactic| walk_at "call type:type") => `(tactic| (k_here; (with_reducible show wpAny _ _ (call (Value.type "type") [Value.bytes _ _]) _ _ _); (refine IS.type_bytes ?_)))
local macro_rules | `(tactic| walk_at "call builtin:issubclass") => `(tactic| (k_here; (refine IS.sub_bytes (News.isTup (by k_asm) (by k_mem)) ?_)))
set_option maxHeartbeats 4000000 in
theorem fsp {w : World} {mean : ExcName → Option Value} {mg mb : Str → Option Value} {dp un : Nat} {gd : Option (List Code)} {cn : Str} {cs : Scope} {a : Addr} {ccd : Value} {cl : List (Str × Addr)} {outer : List Env} {A₀ : Around} {base h₀ : Heap} {L : Addr} {m : Str → Option Value} {news : List (Addr × Obj)} {s : Shared} {Q E : Value → Shared → Prop} {b : List UInt8} {tn : Tok} (S : Site w mean mg mb 1 dp un cs A₀ base outer h₀ L m news s.heap)
    (hret : ∀ (h' : Heap) (tk' : Nat), Fr h₀ L h' m → News h₀ L h' news → Q (.bytes b.toArray tn) { s with heap := h', toks := tk' }) :
    wpAny (model PySem.Challenge.rw_pd0070_01.row.prog w) (ktrTop dp un gd cn cs L a ccd cl outer) (call (.ref 94) [.bytes b.toArray tn]) Q E s := by
  obtain ⟨B, F, X, N, T, hk, hd, hu⟩ := S
  refine wpAny_call ?_
  k_dflt cell_enter
  k_steps
  exact hret _ _ (by assumption) (cb_drop (by assumption) fun p hp => .tail _ hp)
set_option maxHeartbeats 4000000 in
theorem gsep {w : World} {mean : ExcName → Option Value} {mg mb : Str → Option Value} {dp un : Nat} {gd : Option (List Code)} {cn : Str} {cs : Scope} {a : Addr} {ccd : Value} {cl : List (Str × Addr)} {outer : List Env} {A₀ : Around} {base h₀ : Heap} {L : Addr} {m : Str → Option Value} {news : List (Addr × Obj)} {s : Shared} {Q E : Value → Shared → Prop} {b : List UInt8} {tn : Tok} (S : Site w mean mg mb 1 dp un cs A₀ base outer h₀ L m news s.heap)
    (hret : ∀ (t : Tok) (h' : Heap) (tk' : Nat), Fr h₀ L h' m → News h₀ L h' news → Q (.bytes [47].toArray t) { s with heap := h', toks := tk' }) :
    wpAny (model PySem.Challenge.rw_pd0070_01.row.prog w) (ktrTop dp un gd cn cs L a ccd cl outer) (call (.ref 108) [.bytes b.toArray tn]) Q E s := by
  obtain ⟨B, F, X, N, T, hk, hd, hu⟩ := S
  refine wpAny_call ?_
  k_dflt cell_enter
  k_steps
  exact hret _ _ _ (by assumption) (by assumption)
set_option maxHeartbeats 4000000 in
theorem dirn {w : World} {mean : ExcName → Option Value} {mg mb : Str → Option Value} {dp un : Nat} {gd : Option (List Code)} {cn : Str} {cs : Scope} {a : Addr} {ccd : Value} {cl : List (Str × Addr)} {outer : List Env} {A₀ : Around} {base h₀ : Heap} {L : Addr} {m : Str → Option Value} {news : List (Addr × Obj)} {s : Shared} {Q E : Value → Shared → Prop} {ds : List Nat} {tn : Tok} (hf : Fig ds) (S : Site w mean mg mb 2 dp un cs A₀ base outer h₀ L m news s.heap)
    (hret : ∀ (t : Tok) (h' : Heap) (tk' : Nat), Fr h₀ L h' m → News h₀ L h' news → Q (.bytes (pathL ds.dropLast).toArray t) { s with heap := h', toks := tk' }) :
    wpAny (model PySem.Challenge.rw_pd0070_01.row.prog w) (ktrTop dp un gd cn cs L a ccd cl outer) (call (.ref 115) [.bytes (pathL ds).toArray tn]) Q E s := by
  obtain ⟨B, F, X, N, T, hk, hd, hu⟩ := S
  have hlen := path_len hf
  refine wpAny_call ?_
  k_dflt cell_enter
  k_steps
  refine fsp ⟨by k_asm, by k_asm, by k_asm, by k_asm, by k_asm, by first | exact rfl | assumption, by ktr_room, by ktr_units⟩ ?_
  intro h1 tk1 F1 N1
  k_steps
  refine gsep ⟨by k_asm, by k_asm, by k_asm, by k_asm, by k_asm, by first | exact rfl | assumption, by ktr_room, by ktr_units⟩ ?_
  intro t2 h2 tk2 F2 N2
  k_steps
  refine BM.rfind fun t3 tk3 => ?_
  rw [rfind_path hf]
  k_steps
  with_reducible rename Fr _ _ _ _ => F'
  with_reducible rename News _ _ _ _ => N'
  refine KBc.slice_K (s := ⟨_, _, _, _, _⟩) F' N' rfl (by constructor) (by constructor) (by simp [KBw.ints_length]; omega) ?_
  intro h4 t4 k4 F4 N4 _
  rw [head_pick hf]
  k_steps
  have hh := head_len hf
  refine truthy_bytes (by simp; omega) ?_
  rw [show (((headL ds).toArray.size : Int) != 0) = true by rw [bne_iff_ne]; simp only [List.size_toArray]; omega]
  k_steps
  refine bytes_mul_any (b := [47]) (by simp) (by simp only [List.size_toArray]; omega) (by simp only [List.size_toArray]; omega) (by simp) fun t5 k5 => ?_
  rw [rep47h]
  refine ne_bytes ?_
  rw [ne_head hf]
  by_cases h1 : ds.length ≤ 1
  · rw [decide_eq_true h1]
    k_steps
    rw [head_nil h1]
    exact hret _ _ _ (by assumption) (by assumption)
  · rw [decide_eq_false h1]
    k_steps
    refine BM.rstrip (by simp only [List.size_toArray]; omega) fun t6 k6 => ?_
    rw [head_strip hf h1]
    k_steps
    exact hret _ _ _ (by assumption) (by assumption)
set_option maxHeartbeats 4000000 in
theorem fspG {w : World} {mean : ExcName → Option Value} {mg mb : Str → Option Value} {dp un : Nat} {gd : Option (List Code)} {cn : Str} {cs : Scope} {a : Addr} {ccd : Value} {cl : List (Str × Addr)} {outer : List Env} {A₀ : Around} {base h₀ : Heap} {L : Addr} {m : Str → Option Value} {news : List (Addr × Obj)} {s : Shared} {Q E : Value → Shared → Prop} {b : List UInt8} {tn : Tok} (S : Site w mean mg mb 1 dp un cs A₀ base outer h₀ L m news s.heap)
    (hret : ∀ (h' : Heap) (tk' : Nat), Fr h₀ L h' m → News h₀ L h' news → (∀ b o, s.heap.get? b = some o → h'.get? b = some o) → Q (.bytes b.toArray tn) { s with heap := h', toks := tk' }) :
    wpAny (model PySem.Challenge.rw_pd0070_01.row.prog w) (ktrTop dp un gd cn cs L a ccd cl outer) (call (.ref 94) [.bytes b.toArray tn]) Q E s := by
  obtain ⟨B, F, X, N, T, hk, hd, hu⟩ := S
  refine wpAny_call ?_
  k_dflt (refine' code_defG ?k1 ?k2 ?k3 ?k4 ?k5 ?kA ?kF ?kK ?k6 ?k7 ?k8 ?k9 ?kB ?_ ?c2 ?c3 ?c4 ?c5; (case kA => exact rfl); (case kF => exact rfl); (case kK => assumption); (case k1 => k_asm); (case k2 => k_asm); (case k3 => k_asm); (case k4 => k_asm); (case k5 => k_asm); (case k6 => k_is); (case k7 => k_is); (case k8 => ktr_room); (case k9 => exact BindsTo.of_eq rfl); (case c5 => decide); (case kB => exact locs rfl); (case c2 => exact rfl); (case c3 => exact rfl); (case c4 => exact rfl); k_whole)
  intro g1 L1 h1 FG1 F1 N1 B1 X1 T1 G1
  dsimp only
  k_fold
  k_steps
  exact hret _ _ (by assumption) (cb_drop (by assumption) fun p hp => .tail _ hp) (elt_after (InElt.start _) G1 N (by assumption) (by assumption) fun p hp => .tail _ hp)
theorem map_walks {w : World} {mean : ExcName → Option Value} {mg mb : Str → Option Value} {dp un : Nat} {gd : Option (List Code)} {cn : Str} {cs : Scope} {a : Addr} {ccd : Value} {cl : List (Str × Addr)} {outer : List Env} {A₀ : Around} {base h₀ : Heap} {L : Addr} {m : Str → Option Value}
    {z T it l : Addr} {vs : List Value} {bs : List (List UInt8)} (hv : BM.BAre vs bs) (B : Below A₀ base outer h₀) (X : (kap w.params).In h₀) (Tp : Top viewP (looseW viewP []) mean mg mb h₀) (hk : cs.kind = .function) (hr : dp + 1 < recursionLimit) (hu : un + 20 + 1 < cLine)
    (hzi : z ≠ it) (hTi : T ≠ it) (hli : l ≠ it) (hiL : it ≠ L) (hi₀ : h₀.get? it = none) :
    Walks PySem.Challenge.rw_pd0070_01.row.prog w (ktrTop dp un gd cn cs L a ccd cl outer) z (z :: T :: it :: l :: L :: List.range h₀.objs.size) [it] vs.length (fun i v => vs[i]? = some v)
      (fun i h => MP.IsMap h z T (.ref 94) ∧ MP.IsOne h T (.ref it) ∧ h.IsListIter it l i ∧ h.IsList l vs.toArray ∧ Fr h₀ L h m) where
  sub := fun b hb => by
    rw [List.mem_singleton.mp hb]; exact .tail _ (.tail _ (.head _))
  frame := fun i h h' st k => by
    obtain ⟨s1, s2, s3, s4, F⟩ := st
    refine ⟨k z (.head _) _ s1, k T (.tail _ (.head _)) _ s2, s3.at fun o e => k it (.tail _ (.tail _ (.head _))) o e, s4.at fun o e => k l (.tail _ (.tail _ (.tail _ (.head _)))) o e, ?_⟩
    exact ⟨F.ns.at' fun o e => k L (.tail _ (.tail _ (.tail _ (.tail _ (.head _))))) o e, fun b o e => k b (.tail _ (.tail _ (.tail _ (.tail _ (.tail _ (List.mem_range.mpr (Heap.lt_size e))))))) o (F.keep b o e), F.above⟩
  item := fun i s Q E hi st hQ => by
    obtain ⟨s1, s2, s3, s4, F⟩ := st
    have hb : i < bs.length := by rw [← hv.length]; exact hi
    obtain ⟨t0, ht0⟩ := hv.get i bs[i] (by simp [hb])
    refine MP.pyNext_item hzi hTi s1 s2 s3 s4 (x := .bytes bs[i].toArray t0) (by simpa using ht0) fun h' E' s3' hs => ?_
    have F' : Fr h₀ L h' m := F.change hs hiL hi₀
    refine fspG (un := un + 1) ⟨B, F', X, News.nil, Tp, hk, hr, by omega⟩ fun h'' tk'' F'' _ keep => ?_
    refine hQ _ h'' tk'' (by simpa using ht0) ⟨keep _ _ (hs.extBut _ _ hzi s1), keep _ _ (hs.extBut _ _ hTi s2), s3'.at fun o e => keep _ o e, (s4.extBut hs.extBut hli).at fun o e => keep _ o e, F''⟩ fun b o hb' e => ?_
    exact keep b o (hs.extBut b o (fun x => hb' (by simp [x])) e)
  done := fun s Q E st hQ => by
    obtain ⟨s1, s2, s3, s4, F⟩ := st
    refine MP.pyNext_end rfl s1 s2 s3 s4 (by simp) fun h' hk' => hQ h' s.toks fun b o hb e => hk' b o (fun x => hb (by simp [x])) e
  self := fun i s Q E st hQ => MP.pyIter_map st.1 hQ
end
section
theorem tuple_of_map {w : World} {mean : ExcName → Option Value} {mg mb : Str → Option Value} {dp un : Nat} {gd : Option (List Code)} {cn : Str} {cs : Scope} {a : Addr} {ccd : Value} {cl : List (Str × Addr)} {outer : List Env} {A₀ : Around} {base h₀ : Heap} {L : Addr} {m : Str → Option Value} {news : List (Addr × Obj)} {s : Shared} {Q E : Value → Shared → Prop} {z T it l : Addr} {vs : List Value} {bs : List (List UInt8)} (hv : BM.BAre vs bs) (hn : vs.length ≤ 1000) (hz : MP.IsMap s.heap z T (.ref 94)) (hT : MP.IsOne s.heap T (.ref it)) (hi : s.heap.IsListIter it l 0) (hl : s.heap.IsList l vs.toArray)
    (hzi : z ≠ it) (hTi : T ≠ it) (hli : l ≠ it) (hiL : it ≠ L) (hi₀ : h₀.get? it = none) (hoff : ∀ p ∈ news, p.1 ≠ it) (S : Site w mean mg mb 3 dp un cs A₀ base outer h₀ L m news s.heap)
    (hret : ∀ (t : Addr) (h' : Heap) (tk' : Nat), Fr h₀ L h' m → News h₀ L h' ((t, { cls := .type "tuple", data := .seq vs.toArray }) :: news) → (∀ p ∈ news, p.1 < t) → Q (.ref t) { s with heap := h', toks := tk' }) :
    wpAny (model PySem.Challenge.rw_pd0070_01.row.prog w) (ktrTop dp un gd cn cs L a ccd cl outer) (call (.type "tuple") [.ref z]) Q E s := by
  obtain ⟨B, F, X, N, Tp, hk, hd, hu⟩ := S
  have W := map_walks (w := w) (gd := gd) (cn := cn) (a := a) (ccd := ccd) (cl := cl) (dp := dp) (un := un + 3) (m := m) hv B X Tp hk (by omega) (by omega) hzi hTi hli hiL hi₀
  refine MP.call_tuple (A := ktrTop dp un gd cn cs L a ccd cl outer) W.toS (fun i s st => ⟨_, st.1, rfl⟩) ⟨hz, hT, hi, hl, F⟩ ?_ (.head _) ?_ (by rw [sizeLine_eq]; omega)
  · intro b hb
    have hLs := F.ns.lt
    rcases List.mem_cons.mp hb with rfl | hb
    · exact Heap.lt_size hz
    rcases List.mem_cons.mp hb with rfl | hb
    · exact Heap.lt_size hT
    rcases List.mem_cons.mp hb with rfl | hb
    · obtain ⟨_, e, _⟩ := hi; exact Heap.lt_size e
    rcases List.mem_cons.mp hb with rfl | hb
    · obtain ⟨_, e, _⟩ := hl; exact Heap.lt_size e
    rcases List.mem_cons.mp hb with rfl | hb
    · exact hLs
    · exact Nat.lt_trans (Nat.lt_of_lt_of_le (List.mem_range.mp hb) F.above) hLs
  · intro s' acc hm hacc
    have hacc' : acc = vs.toArray := by
      apply Array.ext'
      apply List.ext_getElem?
      intro i
      cases hq : acc.toList[i]? with
      | some v =>
        have := hacc.2 i v (by simpa using hq)
        simpa using this.symm
      | none =>
        have h1 : vs.length ≤ i := by
          have h2 := hacc.1
          rw [List.getElem?_eq_none_iff] at hq
          rw [Array.length_toList] at hq
          omega
        simp [h1]
    subst hacc'
    rw [Moved.eq_with hm]
    have keep : ∀ b o, b ∉ [it] → s.heap.get? b = some o → s'.heap.get? b = some o := hm.heap
    have F' : Fr h₀ L s'.heap m := LCg.fr_but F keep (Ne.symm hiL) hi₀
    have N' : News h₀ L s'.heap news := LCg.news_but N keep hoff
    exact hret _ _ _ (F'.push _) (N'.push F' _) fun p hp => Heap.lt_size (N' p hp).1
/-- a map object over a list: what tuple() asks of it -/
structure MapAt (h h₀ : Heap) (L : Addr) (news : List (Addr × Obj)) (l z : Addr) : Prop where
  ex : ∃ T it, MP.IsMap h z T (.ref 94) ∧ MP.IsOne h T (.ref it) ∧ h.IsListIter it l 0 ∧ z ≠ it ∧ T ≠ it ∧ l ≠ it ∧ it ≠ L ∧ h₀.get? it = none ∧ ∀ p ∈ news, p.1 ≠ it
theorem call_mapK {prog : Program} {w : World} {A : Around} {E Q : Value → Shared → Prop} {s : Shared} {h₀ : Heap} {L l : Addr} {m : Str → Option Value} {news : List (Addr × Obj)} {vs : List Value} {n : Nat}
    (F : Fr h₀ L s.heap m) (N : News h₀ L s.heap news) (hl : (l, listOf vs.toArray n) ∈ news) (h : ∀ z h', Fr h₀ L h' m → News h₀ L h' news → MapAt h' h₀ L news l z → Q (.ref z) { s with heap := h' }) :
    wpAny (model prog w) A (call (.type "map") [.ref 94, .ref l]) Q E s := by
  have hL : s.heap.IsList l vs.toArray := ⟨_, (N _ hl).1, rfl, _, rfl⟩
  refine MP.call_map hL fun h' z T a b c ez eT k => h z h' (F.keptAll k) (N.grown k) ⟨T, s.heap.objs.size, a, b, c, ?_, ?_, ?_, ?_, ?_, ?_⟩
  · rw [ez]; exact Nat.ne_of_gt (Nat.lt_add_of_pos_right (by decide))
  · rw [eT]; exact Nat.ne_of_gt (Nat.lt_add_of_pos_right (by decide))
  · exact Nat.ne_of_lt (Heap.lt_size (N _ hl).1)
  · exact Nat.ne_of_gt F.ns.lt
  · exact next_is_new F
  · exact fun p hp => Nat.ne_of_lt (Heap.lt_size (N p hp).1)
theorem tuple_of_mapK {w : World} {mean : ExcName → Option Value} {mg mb : Str → Option Value} {dp un : Nat} {gd : Option (List Code)} {cn : Str} {cs : Scope} {a : Addr} {ccd : Value} {cl : List (Str × Addr)} {outer : List Env} {A₀ : Around} {base h₀ : Heap} {L : Addr} {m : Str → Option Value} {news : List (Addr × Obj)} {s : Shared} {Q E : Value → Shared → Prop} {z l : Addr} {n : Nat} {vs : List Value} {bs : List (List UInt8)} (hv : BM.BAre vs bs) (hn : vs.length ≤ 1000) (hM : MapAt s.heap h₀ L news l z) (hl : (l, listOf vs.toArray n) ∈ news) (S : Site w mean mg mb 3 dp un cs A₀ base outer h₀ L m news s.heap)
    (hret : ∀ (t : Addr) (h' : Heap) (tk' : Nat), Fr h₀ L h' m → News h₀ L h' ((t, { cls := .type "tuple", data := .seq vs.toArray }) :: news) → (∀ p ∈ news, p.1 < t) → Q (.ref t) { s with heap := h', toks := tk' }) :
    wpAny (model PySem.Challenge.rw_pd0070_01.row.prog w) (ktrTop dp un gd cn cs L a ccd cl outer) (call (.type "tuple") [.ref z]) Q E s := by
  obtain ⟨T, it, h1, h2, h3, h4, h5, h6, h7, h8, h9⟩ := hM
  exact tuple_of_map hv hn h1 h2 h3 ⟨_, (S.N _ hl).1, rfl, _, rfl⟩ h4 h5 h6 h7 h8 h9 S hret
end
section
local macro_rules | `(tactic| walk_at "subscriptTail") => `(tactic| (k_here; (with_reducible show wpAny _ _ (subscriptTail _ _ (Value.ref _) (Value.int _ _)) _ _ _); (with_unfolding_all refine' item_litK ?k1 ?k2 ?k3 ?k4 ?_ ?k6; (case k1 => exact News.isList (by k_asm) (by first | assumption | k_mem)); (case k2 => decide); (case k3 => decide); (case k4 => rfl); (case k6 => with_unfolding_all rfl))))
set_option maxHeartbeats 4000000 in
theorem countW {w : World} {mean : ExcName → Option Value} {mg mb : Str → Option Value} {dp un : Nat} {gd : Option (List Code)} {cn : Str} {cs : Scope} {a : Addr} {ccd : Value} {cl : List (Str × Addr)} {outer : List Env} {A₀ : Around} {base h₀ : Heap} {L : Addr} {m : Str → Option Value} {news : List (Addr × Obj)} {s : Shared} {Q E : Value → Shared → Prop} {f : Addr} {x y z : Nat} {tx ty tz : Tok} {n : Nat} (hx : x ≤ 16) (hy : y ≤ 16) (hz : z ≤ 16) (hm : (f, listOf #[.int (x : Int) tx, .int (y : Int) ty, .int (z : Int) tz] n) ∈ news) (S : Site w mean mg mb 1 dp un cs A₀ base outer h₀ L m news s.heap)
    (hret : ∀ (t : Tok) (h' : Heap) (tk' : Nat), Fr h₀ L h' m → News h₀ L h' news → Q (.int ((x + 16 * y + 256 * z : Nat) : Int) t) { s with heap := h', toks := tk' }) :
    wpAny (model PySem.Challenge.rw_pd0070_01.row.prog w) (ktrTop dp un gd cn cs L a ccd cl outer) (call (.ref 144) [.ref f]) Q E s := by
  obtain ⟨B, F, X, N, T, hk, hd, hu⟩ := S
  refine wpAny_call ?_
  k_dflt cell_enter
  k_steps
  rw [show (x : Int) + 16 * (y : Int) + 256 * (z : Int) = ((x + 16 * y + 256 * z : Nat) : Int) by omega]
  exact hret _ _ _ (by assumption) (by assumption)
end
section
section
variable {prog : Program} {w : World} {A : Around} {E : Value → Shared → Prop} {s : Shared} {h₀ : Heap} {L : Addr} {m : Str → Option Value} {news : List (Addr × Obj)}
theorem flat_rep {α : Type} (n : Nat) (v : α) : (List.replicate n [v]).flatten = List.replicate n v := by
  induction n with
  | zero => rfl
  | succ n ih => rw [List.replicate_succ, List.flatten_cons, ih]; rfl
theorem mulRep {l : Addr} {v : Value} {k : Nat} {x : Int} {u : Tok} {Q : Value → Shared → Prop} (F : Fr h₀ L s.heap m) (N : News h₀ L s.heap news) (hl : (l, listOf #[v] k) ∈ news) (h0 : 0 ≤ x) (h1 : x ≤ 100)
    (h : ∀ D h', Fr h₀ L h' m → News h₀ L h' ((D, listOf (List.replicate x.toNat v).toArray 0) :: news) → (∀ p ∈ news, p.1 < D) → Q (.ref D) { s with heap := h' }) : wpAny (model prog w) A (binaryOp .Mult (.ref l) (.int x u)) Q E s :=
  KMa.mul (vs := [v]) F N ⟨_, (N _ hl).1, rfl, _, rfl⟩ (by omega) (by omega) (by simp; omega) (flat_rep _ _) h
theorem addCat {a b : Addr} {vs ws : List Value} {i j : Nat} {Q : Value → Shared → Prop} (F : Fr h₀ L s.heap m) (N : News h₀ L s.heap news) (ha : (a, listOf vs.toArray i) ∈ news) (hb : (b, listOf ws.toArray j) ∈ news) (hz : vs.length + ws.length ≤ 1000)
    (h : ∀ D h', Fr h₀ L h' m → News h₀ L h' ((D, listOf (vs ++ ws).toArray 0) :: news) → (∀ p ∈ news, p.1 < D) → Q (.ref D) { s with heap := h' }) : wpAny (model prog w) A (binaryOp .Add (.ref a) (.ref b)) Q E s :=
  add_arrays F N ⟨_, (N _ ha).1, rfl, _, rfl⟩ ⟨_, (N _ hb).1, rfl, _, rfl⟩ (fun h' F' N' => h _ h' F' N' fun p hp => Heap.lt_size (N p hp).1) (by simp only [List.size_toArray]; rw [sizeLine_eq]; omega)
theorem ints_rep (n : Nat) (k : Int) (t : Tok) : IntsAre (List.replicate n (Value.int k t)) (List.replicate n k) := by
  induction n with
  | zero => exact .nil
  | succ n ih => exact .cons _ _ ih
end
local macro_rules | `(tactic| k_mem) => `(tactic| assumption)
local macro_rules | `(tactic| walk_at "binaryOp Mult ref int") => `(tactic| (k_here; (with_reducible show wpAny _ _ (binaryOp Operator.Mult (Value.ref _) (Value.int _ _)) _ _ _); (refine' mulRep ?F ?N ?l ?lo ?hi ?_; (case F => k_asm); (case N => k_asm); (case l => k_mem); (case lo => omega); (case hi => omega)); intro D' h' F' N' l1; (try k_lt l1)))
local macro_rules | `(tactic| walk_at "binaryOp Add ref ref") => `(tactic| (k_here; (with_reducible show wpAny _ _ (binaryOp _ (Value.ref _) (Value.ref _)) _ _ _); (refine' addCat ?F ?N ?a ?b ?z ?_; (case F => k_asm); (case N => k_asm); (case a => k_mem); (case b => k_mem); (case z => (simp only [List.length_append, List.length_replicate]; omega))); intro D' h' F' N' l1; (try k_lt l1)))
local macro_rules | `(tactic| walk_at "subscriptTail") => `(tactic| (k_here; (with_reducible show wpAny _ _ (subscriptTail _ _ (Value.ref _) (Value.int _ _)) _ _ _); (with_unfolding_all refine' item_litK ?k1 ?k2 ?k3 ?k4 ?_ ?k6; (case k1 => exact News.isList (by k_asm) (by k_mem)); (case k2 => decide); (case k3 => decide); (case k4 => rfl); (case k6 => with_unfolding_all rfl))))
set_option maxHeartbeats 4000000 in
theorem sizesW {w : World} {mean : ExcName → Option Value} {mg mb : Str → Option Value} {dp un : Nat} {gd : Option (List Code)} {cn : Str} {cs : Scope} {a : Addr} {ccd : Value} {cl : List (Str × Addr)} {outer : List Env} {A₀ : Around} {base h₀ : Heap} {L : Addr} {m : Str → Option Value} {news : List (Addr × Obj)} {s : Shared} {Q E : Value → Shared → Prop} {fb fa : Addr} {b0 b1 b2 a0 a1 a2 md : Nat} {t0 t1 t2 u0 u1 u2 tm : Tok} {n1 n2 : Nat} (hb0 : b0 ≤ 2) (hb1 : b1 ≤ 2) (hb2 : b2 ≤ 2) (ha0 : a0 ≤ 2) (ha1 : a1 ≤ 2) (ha2 : a2 ≤ 2) (hmd : md ≤ 2)
    (hmb : (fb, listOf #[.int (b0 : Int) t0, .int (b1 : Int) t1, .int (b2 : Int) t2] n1) ∈ news) (hma : (fa, listOf #[.int (a0 : Int) u0, .int (a1 : Int) u1, .int (a2 : Int) u2] n2) ∈ news) (S : Site w mean mg mb 1 dp un cs A₀ base outer h₀ L m news s.heap)
    (hret : ∀ (D : Addr) (vs : List Value) (n : Nat) (h' : Heap) (tk' : Nat), IntsAre vs ((sizesN b0 b1 b2 md a0 a1 a2).map Int.ofNat) → Fr h₀ L h' m → News h₀ L h' ((D, listOf vs.toArray n) :: news) → Q (.ref D) { s with heap := h', toks := tk' }) :
    wpAny (model PySem.Challenge.rw_pd0070_01.row.prog w) (ktrTop dp un gd cn cs L a ccd cl outer) (call (.ref 151) [.ref fb, .int (md : Int) tm, .ref fa]) Q E s := by
  obtain ⟨B, F, X, N, T, hk, hd, hu⟩ := S
  refine wpAny_call ?_
  k_dflt cell_enter
  k_steps
  refine' hret _ _ 0 _ _ ?hInts (by assumption) ?hSub
  case hSub =>
    refine kst_newsOf (by assumption) fun p hp => ?_
    rcases List.mem_cons.mp hp with rfl | hp
    · exact .head _
    · simp [hp]
  case hInts =>
    have e : ((a0 : Int) + 1).toNat = a0 + 1 := by omega
    simp only [Int.toNat_natCast, e, sizesN, List.map_append, List.map_replicate]
    exact ((((ints_rep _ _ _).append (ints_rep _ _ _)).append (ints_rep _ _ _)).append (ints_rep _ _ _)).append (((ints_rep _ _ _).append (ints_rep _ _ _)).append (ints_rep _ _ _))
end
section
section
variable {prog : Program} {w : World} {A : Around} {E : Value → Shared → Prop} {s : Shared} {h₀ : Heap} {L : Addr} {m : Str → Option Value} {news : List (Addr × Obj)}
theorem ints_len : ∀ {vs : List Value} {ns : List Int}, IntsAre vs ns → vs.length = ns.length
  | _, _, .nil => rfl
  | _, _, .cons _ _ h => by rw [List.length_cons, List.length_cons, ints_len h]
theorem sumI {l : Addr} {zs : List Value} {ns : List Int} {n : Nat} {Q : Value → Shared → Prop} (hh : A.handled = none) (F : Fr h₀ L s.heap m) (N : News h₀ L s.heap news) (hl : (l, listOf zs.toArray n) ∈ news) (hi : IntsAre zs ns)
    (h : ∀ k t h' tk, Fr h₀ L h' m → News h₀ L h' news → Q (.int k t) { s with heap := h', toks := tk }) : wpAny (model prog w) A (call (.builtin "sum") [.ref l]) Q E s := by
  obtain ⟨xs, e⟩ := hi.allInts.items
  have hL : s.heap.IsList l zs.toArray := ⟨_, (N _ hl).1, rfl, _, rfl⟩
  rw [e] at hL
  exact sum_intListG hh hL fun h' tk t' k => h _ t' h' tk (F.keeps k) (News.grown N k)
theorem slice3I {l : Addr} {vs : List Value} {ns : List Int} {vl vu vk : Value} {lo hi st : Option Int} {ops : List Value} {value slice : PySem.Expr} {Q : Value → Shared → Prop} (F : Fr h₀ L s.heap m) (N : News h₀ L s.heap news) (hl0 : h₀.IsList l vs.toArray) (hI : IntsAre vs ns) (hn : ns.length ≤ 63)
    (pl : IsPart vl lo) (pu : IsPart vu hi) (pk : IsPart vk st) (h0 : st ≠ some 0)
    (h : ∀ D zs ms h', IntsAre zs ms → Fr h₀ L h' m → News h₀ L h' ((D, listOf zs.toArray 0) :: news) → (∀ p ∈ news, p.1 < D) → Q (.ref D) { s with heap := h' })
    (hs : subscripted slice false (.ref l) (.ref s.heap.objs.size) = operate ops (getItem (.ref l) (.ref s.heap.objs.size))) (ht : ∀ r, letTemporaryGo value (.ref l) r = pure ()) :
    wpAny (model prog w) A (subscriptTail value slice (.ref l) (.ref s.heap.objs.size)) Q E { s with heap := s.heap.push { cls := .type "slice", data := .fields #[vl, vu, vk] } } := by
  have hlen := ints_len hI
  refine kmk_slice3_lit F N (hl0.at fun o e => F.keep _ _ e) pl pu pk h0 rfl (fun D h' F' N' lt => h D _ (pickNums ns lo hi st) h' (hI.pick lo hi st) F' N' lt) hs ht ?_
  rw [sizeLine_eq, List.size_toArray]
  omega
theorem ints_snoc {k : Int} {t : Tok} : ∀ {vs : List Value} {ns : List Int}, IntsAre vs ns → IntsAre (vs ++ [.int k t]) (ns ++ [k])
  | _, _, .nil => .cons _ _ .nil
  | _, _, .cons _ _ h => .cons _ _ (ints_snoc h)
theorem news_acb {h : Heap} {a b c d e : Addr × Obj} (N : News h₀ L h (a :: b :: c :: d :: e :: news)) : News h₀ L h (a :: c :: b :: news) := fun p hp => by
  rcases List.mem_cons.mp hp with rfl | hp
  · exact N _ (.head _)
  rcases List.mem_cons.mp hp with rfl | hp
  · exact N _ (.tail _ (.tail _ (.head _)))
  rcases List.mem_cons.mp hp with rfl | hp
  · exact N _ (.tail _ (.head _))
  · exact N _ (.tail _ (.tail _ (.tail _ (.tail _ (.tail _ hp)))))
theorem fm3 (x : Int) : ∃ b : Nat, b ≤ 2 ∧ Int.fmod x 3 = b := by
  rw [Int.fmod_eq_emod_of_nonneg _ (by decide)]
  exact ⟨(x % 3).toNat, by omega, by omega⟩
theorem fm200 (x : Int) : ∃ b : Nat, b < 200 ∧ Int.fmod x 200 = b := by
  rw [Int.fmod_eq_emod_of_nonneg _ (by decide)]
  exact ⟨(x % 200).toNat, by omega, by omega⟩
end
local macro_rules | `(tactic| walk_at "subscriptTail Name Slice ref ref") => `(tactic| (k_here; (with_reducible show wpAny _ _ (subscriptTail _ (PySem.Expr.Slice _ _ (some _) _) (Value.ref _) (Value.ref _)) _ _ _); k_dflt (refine' slice3I ?F ?N ?l ?i ?n ?p ?q ?k ?o ?_ ?s ?t; (case F => k_asm); (case N => k_asm); (case l => assumption); (case i => assumption); (case n => assumption); (case p => kmk_part); (case q => kmk_part); (case k => kmk_part); (case o => decide); (case s => with_unfolding_all rfl); (case t => kmk_pure)); intro D' zs' ms' h' hI' F' N' l1; (try k_lt l1)))
local macro_rules | `(tactic| walk_at "call builtin:sum") => `(tactic| (k_here; (with_reducible show wpAny _ _ (call (Value.builtin "sum") [Value.ref _]) _ _ _); k_dflt (refine' sumI ?hh ?F ?N ?l ?i ?_; (case hh => rfl); (case F => k_asm); (case N => k_asm); (case l => k_mem); (case i => assumption)); intro k' t' h' tk' F' N'))
set_option maxHeartbeats 4000000 in
theorem drawnW {w : World} {mean : ExcName → Option Value} {mg mb : Str → Option Value} {dp un : Nat} {gd : Option (List Code)} {cn : Str} {cs : Scope} {a : Addr} {ccd : Value} {cl : List (Str × Addr)} {outer : List Env} {A₀ : Around} {base h₀ : Heap} {L : Addr} {m : Str → Option Value} {news : List (Addr × Obj)} {s : Shared} {Q E : Value → Shared → Prop} {sa : Addr} {vs : List Value} {ns : List Int} (hsl : h₀.IsList sa vs.toArray) (hsi : IntsAre vs ns) (hsn : ns.length ≤ 63) (S : Site w mean mg mb 2 dp un cs A₀ base outer h₀ L m news s.heap)
    (hret : ∀ (D fb fa : Addr) (b0 b1 b2 a0 a1 a2 q md : Nat) (t0 t1 t2 u0 u1 u2 tl th : Tok) (h' : Heap) (tk' : Nat), b0 ≤ 2 → b1 ≤ 2 → b2 ≤ 2 → a0 ≤ 2 → a1 ≤ 2 → a2 ≤ 2 → q < 200 → md ≤ 2 → Fr h₀ L h' m →
      News h₀ L h' ((D, listOf #[.int ((4096 * (1 + q) : Nat) : Int) tl, .int ((4096 * (1 + q) + 4096 * md : Nat) : Int) th, .ref fb, .ref fa] 0) :: (fb, listOf #[.int (b0 : Int) t0, .int (b1 : Int) t1, .int (b2 : Int) t2] 0) :: (fa, listOf #[.int (a0 : Int) u0, .int (a1 : Int) u1, .int (a2 : Int) u2] 0) :: news) → Q (.ref D) { s with heap := h', toks := tk' }) :
    wpAny (model PySem.Challenge.rw_pd0070_01.row.prog w) (ktrTop dp un gd cn cs L a ccd cl outer) (call (.ref 137) [.ref sa]) Q E s := by
  obtain ⟨B, F, X, N, T, hk, hd, hu⟩ := S
  refine wpAny_call ?_
  k_dflt cell_enter
  have hsl' := hsl.at (h' := _) fun o e => (by assumption : Fr h₀ L _ m).keep _ _ e
  k_steps
  k_dflt (refine LCg.Assign_ListComp_U (F₀ := by k_asm) (by rfl) (by with_unfolding_all rfl) (by with_unfolding_all rfl) (by decide) (by rfl) (by decide) (by rfl) (by rfl) (by rfl) ?_)
  k_steps
  refine LCg.CompSrc.range (n := 8) rfl (by k_asm) (by k_asm) (by k_asm) (by decide) (by decide) (by rw [sizeLine_eq]; omega) (fun g => comp_keep (fun i ys => ∃ ks : List Int, IntsAre ys ks ∧ ks.length = i) ?turn ⟨[], .nil, rfl⟩ ?fin)
  case turn =>
    intro i ys v I oI C oC D m₂ h tk E' hi hJ hP hC hx F5 N5 hoff hne
    obtain ⟨tv, rfl⟩ := hP
    k_steps
    with_reducible rename Fr _ _ _ _ => F6
    with_reducible rename News _ _ _ _ => N6
    refine LCg.CompEnd.intro F6 N6 _ (fun p hp => .tail _ hp) hoff trivial ⟨rfl, ?_⟩
    obtain ⟨ks, h1, h2⟩ := hJ
    exact ⟨ks ++ [_], ints_snoc h1, by simp [h2]⟩
  case fin =>
    intro ys hJ D hD tkD FD ND oD
    obtain ⟨ks, hk1, hk2⟩ := hJ
    have hk8 : ys.length = 8 := by rw [ints_len hk1, hk2]
    k_steps
    with_reducible rename News h₀ L _ _ => N9
    obtain ⟨b0, hb0, e0⟩ := fm3 ((ks.getD (Int.toNat 0) 0) + 1)
    obtain ⟨b1, hb1, e1⟩ := fm3 (ks.getD (Int.toNat 1) 0)
    obtain ⟨b2, hb2, e2⟩ := fm3 (ks.getD (Int.toNat 2) 0)
    obtain ⟨a0, ha0, e3⟩ := fm3 (ks.getD (Int.toNat 3) 0)
    obtain ⟨a1, ha1, e4⟩ := fm3 ((ks.getD (Int.toNat 4) 0) + 1)
    obtain ⟨a2, ha2, e5⟩ := fm3 (ks.getD (Int.toNat 5) 0)
    obtain ⟨md, hmd, e6⟩ := fm3 (ks.getD (Int.toNat 6) 0)
    obtain ⟨q, hq, e7⟩ := fm200 (ks.getD (Int.toNat 7) 0)
    have el : 4096 * (1 + Int.fmod (ks.getD (Int.toNat 7) 0) 200) = ((4096 * (1 + q) : Nat) : Int) := by rw [e7]; omega
    have eh : ((4096 * (1 + q) : Nat) : Int) + 4096 * Int.fmod (ks.getD (Int.toNat 6) 0) 3 = ((4096 * (1 + q) + 4096 * md : Nat) : Int) := by rw [e6]; omega
    rw [el, eh, e0, e1, e2, e3, e4, e5] at N9
    exact hret _ _ _ b0 b1 b2 a0 a1 a2 q md _ _ _ _ _ _ _ _ _ _ hb0 hb1 hb2 ha0 ha1 ha2 hq hmd (by assumption) (news_acb N9)
end
section
local macro_rules | `(tactic| k_steps) => `(tactic| repeat' (first | (k_unfold; (try dsimp only)) | (k_end; wrow_close) | ((fail_if_success (with_reducible show wpAny _ _ (exec (Stmt.While _ _ _ _) _) _ _ _)); (fail_if_success (with_reducible show wpAny _ _ (subscriptTail _ _ (Value.ref _) (Value.int _ _)) _ _ _)); (fail_if_success (with_reducible show wpAny _ _ (call (Value.builtin "bytes.join") _) _ _ _)); (fail_if_success (with_reducible show wpAny _ _ (truthy (Value.bytes _ _)) _ _ _)); (fail_if_success (with_reducible show wpAny _ _ (call (Value.builtin "min") _) _ _ _)); (fail_if_success (with_reducible show wpAny _ _ (binaryOp Operator.Pow _ _) _ _ _)); (fail_if_success (with_reducible show wpAny _ _ (call (Value.builtin "list.append") _) _ _ _)); (fail_if_success (with_reducible show wpAny _ _ (call (Value.builtin "bytes.count") _) _ _ _)); (fail_if_success (with_reducible show wpAny _ _ (compareOp _ (Value.bytes _ _) (Value.bytes _ _)) _ _ _)); (fail_if_success (with_reducible show wpAny _ _ (compareOp _ (Value.bytes _ _) (Value.ref _)) _ _ _)); (fail_if_success (with_reducible show wpAny _ _ (compareOp _ (Value.ref _) (Value.ref _)) _ _ _)); (fail_if_success (with_reducible show wpAny _ _ (binaryOp Operator.Add (Value.ref _) (Value.ref _)) _ _ _)); (fail_if_success (with_reducible show wpAny _ _ (pyIter _) _ _ _)); (fail_if_success (with_reducible show FI.TurnL _ _ _ _ _ _ _ _)); (fail_if_success (with_reducible show FI.Turn _ _ _ _ _ _ _ _)); (fail_if_success (with_reducible show wpAny _ _ (call (Value.builtin "max") _) _ _ _)); (fail_if_success (with_reducible show wpAny _ _ (call (Value.builtin "bytes.split") _) _ _ _)); (fail_if_success (with_reducible show wpAny _ _ (call (Value.builtin "bytes.startswith") _) _ _ _)); (fail_if_success (with_reducible show wpAny _ _ (call (Value.type "map") _) _ _ _)); (fail_if_success (with_reducible show wpAny _ _ (call (Value.type "tuple") _) _ _ _)); (fail_if_success (with_reducible show wpAny _ _ (call (Value.type "enumerate") _) _ _ _)); (fail_if_success (with_reducible show wpAny _ _ (eval (Expr.SetComp _ _ _ _) _) _ _ _)); (fail_if_success (with_reducible show wpAny _ _ (exec (Stmt.Try _ _ _ _ _) _) _ _ _)); (fail_if_success (with_reducible show wpAny _ _ (truthy (Value.ref _)) _ _ _)); (fail_if_success (with_reducible show wpAny _ _ (subscriptTail _ _ (Value.ref _) (Value.ref _)) _ _ _)); (fail_if_success (with_reducible show wpAny _ _ (binaryOp _ (Value.bytes _ _) (Value.bytes _ _)) _ _ _)); (fail_if_success (with_reducible show CT.TupSrc _ _ _ _ _ _ _ _ _ _ _ _ _ _)); (fail_if_success (with_reducible show CS.Src _ _ _ _ _ _ _ _ _ _ _ _ _ _)); (fail_if_success (with_reducible show LCt.CompSrcT _ _ _ _ _ _ _ _ _ _ _ _ _ _ _)); (fail_if_success (with_reducible show wpAny _ _ (exec (Stmt.For _ _ _ _ _) _) _ _ _)); (fail_if_success (with_reducible show wpAny _ _ (call (Value.ref _) _) _ _ _)); (fail_if_success (with_reducible show wpAny _ _ (eval (Expr.ListComp _ _ _ _) _) _ _ _)); (fail_if_success (with_reducible show wpAny _ _ (exec (Stmt.Assign _ (Expr.ListComp _ _ _ _) _) _) _ _ _)); (fail_if_success (with_reducible show LCg.CompSrc _ _ _ _ _ _ _ _ _ _ _ _ _ _)); (fail_if_success (with_reducible show LCg.CompEnd _ _ _ _ _ _ _ _ _ _ _ _ _ _)); (first | walk1 | (dsimp only; walk1))) | (leave1; walk_say "STEP leave1"; try dsimp only) | fail "no step"))
theorem seq0 {v : Value} (vr : List Value) : seqIndex? 0 (v :: vr).length = some 0 := by
  have h : (0 : Int) < ((v :: vr).length : Int) := by rw [List.length_cons]; omega
  simp only [seqIndex?]
  simp
set_option maxHeartbeats 4000000 in
theorem cpath {w : World} {mean : ExcName → Option Value} {mg mb : Str → Option Value} {dp un : Nat} {gd : Option (List Code)} {cn : Str} {cs : Scope} {a : Addr} {ccd : Value} {cl : List (Str × Addr)} {outer : List Env} {A₀ : Around} {base h₀ : Heap} {L : Addr} {m : Str → Option Value} {news : List (Addr × Obj)} {s : Shared} {Q E : Value → Shared → Prop} {lp : Addr} {n0 : Nat} {vs : List Value} {pss : List (List Nat)} (hv : BM.BAre vs (pss.map pathL)) (hf : ∀ ds ∈ pss, Fig ds) (h0 : pss ≠ []) (hn : pss.length ≤ 20) (hmem : (lp, listOf vs.toArray n0) ∈ news) (S : Site w mean mg mb 6 dp un cs A₀ base outer h₀ L m news s.heap)
    (hret : ∀ (p q : List Nat) (t : Tok) (h' : Heap) (tk' : Nat), p ∈ pss → q ∈ pss → (∀ r ∈ pss, ¬ r < p) → (∀ r ∈ pss, ¬ q < r) → Fr h₀ L h' m → News h₀ L h' news → Q (.bytes (pathL (lcp p q)).toArray t) { s with heap := h', toks := tk' }) :
    wpAny (model PySem.Challenge.rw_pd0070_01.row.prog w) (ktrTop dp un gd cn cs L a ccd cl outer) (call (.ref 120) [.ref lp]) Q E s := by
  obtain ⟨B, F, X, N, T, hk, hd, hu⟩ := S
  refine wpAny_call ?_
  k_dflt cell_enter
  have hlen : vs.length ≤ 20 := by rw [hv.length, List.length_map]; exact hn
  k_steps
  refine call_mapK (by k_asm) (by k_asm) (.tail _ (.tail _ hmem)) ?_
  intro z1 h1 F1 N1 M1
  k_steps
  refine tuple_of_mapK hv (by omega) M1 (.tail _ (.tail _ hmem)) ⟨by k_asm, by k_asm, by k_asm, by k_asm, by k_asm, by first | exact rfl | assumption, by ktr_room, by ktr_units⟩ ?_
  intro t2 h2 tk2 F2 N2 l2
  k_lt l2
  cases pss with
  | nil => exact absurd rfl h0
  | cons ds dss =>
  rw [List.map_cons] at hv
  cases hv with
  | cons hv1 =>
  rename_i t0 vr
  k_steps
  refine ktl_truthyK (by k_asm) (.head _) (by omega) ?_
  simp only [List.isEmpty_cons, Bool.not_false]
  k_steps
  refine item_tupleT (News.isTup (by k_asm) (.head _)) (by decide) (by decide) (seq0 vr) rfl ?_
  k_steps
  refine CT.try_quiet ?_
  k_steps
  k_dflt (refine CT.assign_tup (F₀ := by k_asm) (by rfl) (by with_unfolding_all rfl) (by with_unfolding_all rfl) (by decide) (by rfl) (by decide) (by rfl) (by rfl) (by rfl) ?_)
  k_steps
  refine ⟨t2, _, _, rfl, rfl, by k_asm, by k_asm, .head _, by rw [sizeLine_eq]; simp only [List.size_toArray, List.length_cons]; simp only [List.length_cons] at hlen; omega, fun g => comp_grow (fun i ys nw => LLs nw ys (((ds :: dss).take i).map splitOf)) ?turn trivial ?fin⟩
  case turn =>
    intro i ys nw v I oI C oC D m₂ h tk E' hi hsub hJ hP hC hx F5 N5 hoff hne
    obtain ⟨di, tv, hdi, hdm, rfl⟩ := BAre.at (pss := ds :: dss) (.cons hv1) (by simpa using hP)
    have hfi := hf di hdm
    have N6 := news_put N5 hsub
    simp only [List.cons_append, List.nil_append] at N6
    k_steps
    refine BM.split (by decide) (occ_path hfi) (split_small hfi).1 (split_small hfi).2 ?_
    intro vs8 k8 hv8
    refine turn_new F5 N5 hoff rfl (.tail _ (hsub _ (.head _))) ⟨fun p hp => .tail _ (hsub _ hp), ?_⟩
    rw [List.take_add_one, hdi, List.map_append]
    exact (hJ.mono fun p hp => .tail _ hp).snoc (n := 0) (.head _) (by exact hv8)
  case fin =>
    intro ys nw hsub hJ D hD tkD FD ND oD
    rw [List.take_of_length_le (by rw [List.size_toArray, List.length_cons, List.length_cons, hv1.length, List.length_map]; exact Nat.le_refl _)] at hJ
    have N6 := news_put1 ND hsub
    simp only [List.cons_append, List.nil_append] at N6
    clear ND
    k_steps
    refine CT.try_quiet ?_
    dsimp only at FD
    k_steps
    k_dflt (refine CS.setcomp (F₀ := by k_asm) (by ktr_units) (by with_unfolding_all rfl) (by decide) (by rfl) (by decide) (by rfl) ?_)
    k_steps
    refine ⟨t2, _, _, rfl, rfl, by k_asm, by k_asm, .tail _ (.head _), by simp, fun g => ?turn, fun D2 h2 tk2 F2 N2 o2 => ?_⟩
    case turn =>
      intro i v I oI C oC D2 oD2 m₂ h tk E' hi hC hx F5 N5 hoff hne
      obtain ⟨di, tv, hdi, hdm, rfl⟩ := BAre.at (pss := ds :: dss) (.cons hv1) (by simpa using hi)
      k_steps
      refine BM.starts ?_
      rw [starts_path (hf di hdm)]
      refine LCg.CompEnd.intro F5 N5 _ (fun p hp => hp) hoff trivial ⟨rfl, rfl⟩
    dsimp only
    refine CS.assign_one rfl (N2 _ (.head _)).1 fun h3 k3 => ?_
    have F3 := F2.keeps k3
    have N3 := (News.grown N2 k3)
    clear F2 N2 FD N6
    k_steps
    k_dflt (refine LCg.Assign_ListComp_U (F₀ := by k_asm) (by rfl) (by with_unfolding_all rfl) (by with_unfolding_all rfl) (by decide) (by rfl) (by decide) (by rfl) (by rfl) (by rfl) ?_)
    k_steps
    have hys : ys.length ≤ 20 := by rw [hJ.length, List.length_map]; exact hn
    refine LCg.CompSrc.ledger (by rfl) (by k_asm) (by k_asm) (.tail _ (.head _)) (by rw [sizeLine_eq, List.size_toArray]; omega) (fun g2 => comp_grow (fun i ys' nw' => LLs nw' ys' (((ds :: dss).take i).map lets)) ?turn2 trivial ?fin2)
    case turn2 =>
      intro i ys2 nw2 v I oI C oC D3 m₂ h tk E' hi hsub2 hJ2 hP hC hx F5 N5 hoff hne
      obtain ⟨bs, ai, vi, ni, e1, rfl, hm, hb⟩ := hJ.get i v (by simpa using hP)
      have hi2 : i < (ds :: dss).length := by rw [List.size_toArray, hJ.length, List.length_map] at hi; exact hi
      have hfi : Fig ((ds :: dss)[i]) := hf _ (List.getElem_mem hi2)
      rw [List.getElem?_map, List.getElem?_eq_getElem hi2] at e1
      cases e1
      have N6 := news_put N5 hsub2
      simp only [List.cons_append, List.nil_append] at N6
      k_dflt (refine LCt.ListComp_T (F₀ := by k_asm) (by with_unfolding_all rfl) (by decide) (by rfl) (by decide) (by rfl) ?_)
      k_steps
      have hvi : vi.size ≤ 6 := by rw [← Array.length_toList, hb.length]; exact split_count hfi
      refine LCt.CompSrcT.ledger (its := vi) (k := ni) (by rfl) F5 N6 (by simp [hm]) (by rw [sizeLine_eq]; omega) (fun g3 => compT_from (fun j ys => BM.BAre ys (((splitOf ((ds :: dss)[i]'hi2)).take j).filter good)) ?turn3 ?fin3 _ 0 [] (Nat.zero_add _) .nil)
      case turn3 =>
        intro j ys4 v I4 oI4 C4 oC4 D4 m₄ h tk E' hj hJ4 hP4 hC4 hx4 F7 N7 hoff4 hne4
        have hjs : j < (splitOf ((ds :: dss)[i]'hi2)).length := by rw [← hb.length, Array.length_toList]; exact hj
        obtain ⟨t4, ht4⟩ := hb.get j _ (List.getElem?_eq_getElem hjs)
        have ev : v = .bytes ((splitOf ((ds :: dss)[i]'hi2))[j]).toArray t4 := by
          rw [← Array.getElem?_toList, ht4] at hP4; exact (Option.some.inj hP4).symm
        subst ev
        have hmem4 := split_mem hfi (List.getElem_mem hjs)
        have hstep : ((splitOf ((ds :: dss)[i]'hi2)).take (j + 1)).filter good = ((splitOf ((ds :: dss)[i]'hi2)).take j).filter good ++ (if good (splitOf ((ds :: dss)[i]'hi2))[j] then [(splitOf ((ds :: dss)[i]'hi2))[j]] else []) := by
          rw [List.take_add_one, List.getElem?_eq_getElem hjs, Option.toList_some, List.filter_append]
          congr 1
          by_cases hg : good (splitOf ((ds :: dss)[i]'hi2))[j] = true <;> simp [hg]
        rw [hstep]
        generalize (splitOf ((ds :: dss)[i]'hi2))[j] = b4 at hmem4 hstep hx4 ⊢
        rcases hmem4 with rfl | ⟨d4, hd4, rfl⟩
        · rw [show good [] = false from rfl]
          simp only [Bool.false_eq_true, if_false, List.append_nil]
          k_steps
          refine truthy_bytes (by simp) ?_
          simp only [show (((#[] : Array UInt8).size : Int) != 0) = false from rfl, Bool.false_eq_true, if_false]
          exact LCg.CompEnd.intro F7 N7 _ (fun p hp => hp) hoff4 (.inr ⟨listOf vi ni, by simp [hm], rfl, _, rfl⟩) ⟨rfl, hJ4⟩
        · rw [show good [ltr d4] = true by simp [good, (ltr_ne hd4).2]]
          simp only [if_true]
          k_steps
          refine truthy_bytes (by simp) ?_
          simp only [show (((#[ltr d4] : Array UInt8).size : Int) != 0) = true from rfl, if_true]
          k_steps
          refine ne_bytes ?_
          rw [show (([ltr d4] : List UInt8) != [46]) = true by simp [(ltr_ne hd4).2]]
          k_steps
          exact LCg.CompEnd.intro F7 N7 _ (fun p hp => hp) hoff4 (.inr ⟨listOf vi ni, by simp [hm], rfl, _, rfl⟩) ⟨rfl, hJ4.snoc⟩
      case fin3 =>
        intro ys4 hJ4
        rw [List.take_of_length_le (by rw [← hb.length, Array.length_toList]; exact Nat.le_refl _), good_split hfi] at hJ4
        intro D4 h4 tk4 F7 N7 off4
        refine turn_end (base := _ :: (D, LCg.lst ys) :: _ :: _ :: _ :: (news ++ nw)) F7 N7 off4 hoff (.inr ⟨LCg.lst ys, .tail _ (hsub2 _ (.tail _ (.head _))), rfl, _, rfl⟩) ⟨fun p hp => .tail _ (hsub2 _ hp), ?_⟩
        rw [List.take_add_one, List.getElem?_eq_getElem hi2, Option.toList_some, List.map_append]
        exact (hJ2.mono fun p hp => .tail _ hp).snoc (.head _) (by simpa using hJ4)
    case fin2 =>
      intro ys2 nw2 hsub2 hJ2 D3 h3 tk3 F3 N3 o3
      rw [List.take_of_length_le (by rw [List.size_toArray, hJ.length, List.length_map]; exact Nat.le_refl _)] at hJ2
      have N6 := news_put1 N3 hsub2
      simp only [List.cons_append, List.nil_append] at N6
      clear N3
      dsimp only at F3
      k_steps
      refine min_lists rfl (by ktr_units) (by k_asm) (.head _) (hJ2.mono fun p hp => by simp [hp]) hf h0 ?_
      intro a1 vs1 n1 p1 h1 tk1 hm1 hb1 hp1 hbest1 keep1
      have F4 := F3.keeps keep1
      have N4 := News.grown N6 keep1
      clear F3 N6
      k_steps
      refine max_lists rfl (by ktr_units) (by k_asm) (.head _) (hJ2.mono fun p hp => by simp [hp]) hf h0 ?_
      intro a2 vs2 n2 p2 h2 tk2 hm2 hb2 hp2 hbest2 keep2
      with_reducible rename Fr _ _ _ _ => F5
      with_reducible rename News _ _ _ _ => N5
      have F6 := F5.keeps keep2
      have N6 : News _ _ _ ((a1, listOf vs1 n1) :: (a2, listOf vs2 n2) :: _) := fun p hp => by
        rcases List.mem_cons.mp hp with rfl | hp
        · exact (News.grown N5 keep2) _ hm1
        rcases List.mem_cons.mp hp with rfl | hp
        · exact (News.grown N5 keep2) _ hm2
        · exact (News.grown N5 keep2) _ hp
      clear F5 N5
      have hf1 := hf _ hp1
      have hf2 := hf _ hp2
      k_steps
      refine For_turns (by k_asm) ?_
      k_steps
      refine FI.enum_names (vs := vs1.toList) (n := n1) (Str.ofString "i") (Str.ofString "c") rfl (by k_asm) (by k_asm) (.head _) (fun i => ∀ j, j < i → p1[j]? = p2[j]?) (fun _ h => nomatch h) ?turn5 ?fin5
      case turn5 =>
        intro i v I oE oI T5 t5 o1 o2 h tk hv hj hI hT F7 N7
        have hl1 : vs1.toList.length = p1.length := by rw [hb1.length, lets, List.length_map]
        have hl2 : vs2.toList.length = p2.length := by rw [hb2.length, lets, List.length_map]
        have hi1 : i < p1.length := by
          have := (List.getElem?_eq_some_iff.mp hv).1
          omega
        have hi2 : i < p2.length := not_short hj hi1 (hbest1 p2 hp2)
        obtain ⟨tv1, htv1⟩ := hb1.get i [ltr p1[i]] (by simp [lets, hi1])
        obtain ⟨tv2, htv2⟩ := hb2.get i [ltr p2[i]] (by simp [lets, hi2])
        rw [hv] at htv1
        cases htv1
        have hi5 := hf1.2
        k_steps
        with_reducible rename Fr _ _ _ _ => F8
        with_reducible rename News _ _ _ _ => N8
        with_unfolding_all refine item_litK (vs := vs2.toList) (v := .bytes [ltr p2[i]].toArray tv2) (News.isList (items := vs2) (n := n2) N8 (by k_mem)) (by omega) (by omega) (by simpa using htv2) ?_
        refine ne_bytes ?_
        by_cases hq : p1[i] = p2[i]
        · rw [show ([ltr p1[i]].toArray.toList != [ltr p2[i]].toArray.toList) = false by simp [hq]]
          k_steps
          with_reducible rename Fr _ _ _ _ => F9
          with_reducible rename News _ _ _ _ => N9
          refine FI.turn_next F9 N9 (fun p hp => by first | exact hp | exact .tail _ hp | exact .tail _ (.tail _ hp)) ⟨fun z h1 h2 => by simp only [h1, h2, if_false], fun j hj' => ?_⟩
          by_cases hji : j < i
          · exact hj j hji
          · obtain rfl : j = i := by omega
            rw [List.getElem?_eq_getElem hi1, List.getElem?_eq_getElem hi2, hq]
        · rw [show ([ltr p1[i]].toArray.toList != [ltr p2[i]].toArray.toList) = true by simpa using fun e => hq (ltr_inj (hf1.1 _ (List.getElem_mem hi1)) (hf2.1 _ (List.getElem_mem hi2)) e)]
          k_steps
          with_reducible rename Fr _ _ _ _ => F9
          with_reducible rename News _ _ _ _ => N9
          refine kms_slice_lit (zs := vs1.toList.take i) (s := ⟨_, _, _, _, _⟩) F9 N9 (News.isList (items := vs1) (n := n1) N9 (by k_mem)) (by constructor) (by constructor) ?ez ?_ (by with_unfolding_all rfl) (fun _ => by with_unfolding_all rfl) (by rw [sizeLine_eq, ← Array.length_toList]; omega)
          case ez =>
            simp only [kms_pick, kms_lo, kms_hi, List.drop_zero, Nat.sub_zero]
            rw [if_neg (by omega), Int.toNat_natCast, Nat.min_eq_left (by omega)]
          intro D9 h9 F10 N10 l9
          k_steps
          dsimp only
          refine FI.turn_brk ?_
          dsimp only
          k_steps
          have hb9 : BM.BAre (vs1.toList.take i) (lets (p1.take i)) := by
            have := hb1.take i
            rwa [lets, ← List.map_take] at this
          have hi9 : (p1.take i).length ≤ 5 := by rw [List.length_take]; omega
          refine BM.join (bs := lets (p1.take i)) (vs := vs1.toList.take i) (News.isList (by k_asm) (.head _)) hb9 ?z3 ?z4 ?_
          case z3 => have := path_join_size (p1.take i); rw [lets]; omega
          case z4 => rw [lets, ones_sum]; simp only [List.size_toArray, List.length_cons, List.length_nil, List.length_map]; omega
          intro t8 k8
          refine KBy.add_bytes (by have := path_join_size (p1.take i); rw [lets]; simp only [List.size_toArray, List.length_cons, List.length_nil]; omega) fun t9 k9 => ?_
          rw [show lets (p1.take i) = (p1.take i).map fun d => [ltr d] from rfl, path_join]
          k_steps
          have e9 : lcp p1 p2 = p1.take i := lcp_cut hj hi1 (by rw [List.getElem?_eq_getElem hi1, List.getElem?_eq_getElem hi2]; simpa using hq)
          rw [show pathL (p1.take i) = pathL (lcp p1 p2) by rw [e9]]
          exact hret p1 p2 _ _ _ hp1 hp2 hbest1 hbest2 (by assumption) (kst_newsOf (by assumption) fun p hp => by simp [hp])
      case fin5 =>
        intro o1 o2 h tk hj F7 N7
        k_steps
        refine BM.join (bs := lets p1) (vs := vs1.toList) (News.isList (by k_asm) (.head _)) hb1 ?z1 ?z2 ?_
        case z1 => have := path_join_size p1; have := hf1.2; rw [lets]; omega
        case z2 => have := hf1.2; rw [lets, ones_sum]; simp; omega
        intro t8 k8
        refine KBy.add_bytes (by have := path_join_size p1; have := hf1.2; rw [lets]; simp; omega) fun t9 k9 => ?_
        rw [show lets p1 = p1.map fun d => [ltr d] from rfl, path_join]
        k_steps
        have e9 : lcp p1 p2 = p1 := lcp_all fun j hj' => hj j (by rw [hb1.length, lets, List.length_map]; exact hj')
        rw [show pathL p1 = pathL (lcp p1 p2) by rw [e9]]
        exact hret p1 p2 _ _ _ hp1 hp2 hbest1 hbest2 (by assumption) (kst_newsOf (by assumption) fun p hp => by simp [hp])
theorem fdiv16 (q : Nat) : Int.fdiv (q : Int) 16 = ((q / 16 : Nat) : Int) := by rw [Int.fdiv_eq_ediv_of_nonneg _ (by decide)]; omega
set_option maxHeartbeats 4000000 in
theorem meetW {w : World} {mean : ExcName → Option Value} {mg mb : Str → Option Value} {dp un : Nat} {gd : Option (List Code)} {cn : Str} {cs : Scope} {a : Addr} {ccd : Value} {cl : List (Str × Addr)} {outer : List Env} {A₀ : Around} {base h₀ : Heap} {L : Addr} {m : Str → Option Value} {news : List (Addr × Obj)} {s : Shared} {Q E : Value → Shared → Prop} {x y : Nat} {tx ty : Tok} (S : Site w mean mg mb 1 dp un cs A₀ base outer h₀ L m news s.heap)
    (hret : ∀ (t : Tok) (h' : Heap) (tk' : Nat), Fr h₀ L h' m → News h₀ L h' news → Q (.int (meetN x y : Int) t) { s with heap := h', toks := tk' }) :
    wpAny (model PySem.Challenge.rw_pd0070_01.row.prog w) (ktrTop dp un gd cn cs L a ccd cl outer) (call (.ref 172) [.int (x : Int) tx, .int (y : Int) ty]) Q E s := by
  obtain ⟨B, F, X, N, T, hk, hd, hu⟩ := S
  refine wpAny_call ?_
  k_dflt cell_enter
  k_steps
  rename Fr _ _ _ _ => F1
  rename News _ _ _ _ => N1
  refine' ksw_while (σ := Nat × Nat × Tok × Tok) (fun _ => news) (fun c => [(Str.ofString "a", .int (c.1 : Int) c.2.2.1), (Str.ofString "b", .int (c.2.1 : Int) c.2.2.2)]) (fun _ => True) [Str.ofString "a", Str.ofString "b"]
     (fun c => meetN c.1 c.2.1 = meetN x y) (fun c => c.1 + c.2.1) (x, y, _, _) F1 N1 trivial ?a ?b ?_ ?hE
  case hE => first | passes_own | with_unfolding_all passes_own
  case a => kst_all
  case b => rfl
  rintro ⟨p, q, t1, t2⟩ u h tk - hP F2 N2
  dsimp only at hP F2 N2
  clear F1 N1
  rw [meetN] at hP
  k_steps
  · rename_i hne hlt
    rw [if_neg (by omega), if_pos (by omega)] at hP
    with_reducible rename Fr _ _ _ _ => F3
    rw [fdiv16] at F3
    refine ksw_end (p / 16, q, _, _) F3 (by assumption) (fun p hp => hp) trivial (by kst_all) (by ksw_same) hP ?_
    dsimp only
    omega
  · rename_i hne hlt
    rw [if_neg (by omega), if_neg (by omega)] at hP
    with_reducible rename Fr _ _ _ _ => F3
    rw [fdiv16] at F3
    refine ksw_end (p, q / 16, _, _) F3 (by assumption) (fun p hp => hp) trivial (by kst_all) (by ksw_same) hP ?_
    dsimp only
    omega
  · rename_i he _ _ _ _
    rw [if_pos (by omega)] at hP
    rw [hP]
    exact hret _ _ _ (by assumption) (by assumption)
theorem at_is {x y : Int} {t : Tok} {n : Str} {o : Option Value} (h : x = y) : ∃ t', (if n = n then some (Value.int x t) else o) = some (Value.int y t') := ⟨t, by rw [if_pos rfl, h]⟩
theorem ints_nat {vs : List Value} {ss : List Nat} (h : IntsAre vs (ss.map Int.ofNat)) {i : Nat} {v : Value} (hv : vs[i]? = some v) : ∃ s t, ss[i]? = some s ∧ v = .int (s : Int) t := by
  have hl := ints_len h
  have hi : i < ss.length := by
    have := (List.getElem?_eq_some_iff.mp hv).1
    rw [List.length_map] at hl
    omega
  obtain ⟨t, ht⟩ := h.get i (ss[i] : Int) (by simp [hi])
  rw [hv] at ht
  cases ht
  exact ⟨ss[i], t, by simp [hi], rfl⟩
set_option maxHeartbeats 4000000 in
theorem wantedW {w : World} {mean : ExcName → Option Value} {mg mb : Str → Option Value} {dp un : Nat} {gd : Option (List Code)} {cn : Str} {cs : Scope} {a : Addr} {ccd : Value} {cl : List (Str × Addr)} {outer : List Env} {A₀ : Around} {base h₀ : Heap} {L : Addr} {m : Str → Option Value} {news : List (Addr × Obj)} {s : Shared} {Q E : Value → Shared → Prop} {low : Nat} {tl : Tok} {sz : Addr} {vs : List Value} {n : Nat} {ss : List Nat} (hs : ∀ x ∈ ss, Blk x) (hsum : low + ss.sum ≤ 1048576) (hn : ss.length ≤ 20) (hvi : IntsAre vs (ss.map Int.ofNat)) (hm : (sz, listOf vs.toArray n) ∈ news) (S : Site w mean mg mb 4 dp un cs A₀ base outer h₀ L m news s.heap)
    (hret : ∀ (D : Addr) (ys : List Value) (h' : Heap) (tk' : Nat), BM.BAre ys ((wantedN low ss).map pathL) → Fr h₀ L h' m → News h₀ L h' ((D, LCg.lst ys) :: news) → Q (.ref D) { s with heap := h', toks := tk' }) :
    wpAny (model PySem.Challenge.rw_pd0070_01.row.prog w) (ktrTop dp un gd cn cs L a ccd cl outer) (call (.ref 158) [.int (low : Int) tl, .ref sz]) Q E s := by
  obtain ⟨B, F, X, N, T, hk, hd, hu⟩ := S
  refine wpAny_call ?_
  k_dflt cell_enter
  k_steps
  refine For_turns (by k_asm) ?_
  k_steps
  rename_i D _ hDlt _ _ F1 N1
  refine FI.list_names (vs := vs) (n := n) [Str.ofString "size", Str.ofString "at"] rfl F1 N1 (.tail _ hm) (fun i m nw => (∃ t, m (Str.ofString "at") = some (.int ((low + (ss.take i).sum : Nat) : Int) t)) ∧ ∃ ys, nw = (D, LCg.lst ys) :: news ∧ BM.BAre ys (((wantedN low ss).take i).map pathL)) ⟨⟨_, rfl⟩, [], rfl, .nil⟩ ?hJ ?turn ?fin
  case hJ =>
    rintro i m nw ⟨_, ys, rfl, _⟩
    exact .tail _ hm
  case turn =>
    rintro i v I oI m nw h tk hv ⟨⟨ta, hat⟩, ys, rfl, hys⟩ hI F2 N2
    obtain ⟨s0, ts, hs0, rfl⟩ := ints_nat hvi hv
    simp only [FI.ovr, hat] at F2
    clear F1 N1
    have hDI : D < I := hI _ (.head _)
    have hi : i < ss.length := (List.getElem?_eq_some_iff.mp hs0).1
    have hs0m : s0 ∈ ss := List.mem_of_getElem? hs0
    have hpos : 1 ≤ s0 := by rcases hs s0 hs0m with h | h | h | h <;> omega
    have hat1 : low + (ss.take i).sum < 1048576 := by
      have e : ss.sum = (ss.take i).sum + (ss.drop i).sum := by rw [← List.sum_append, List.take_append_drop]
      have e2 : (ss.drop i).sum = s0 + (ss.drop (i + 1)).sum := by
        rw [List.drop_eq_getElem_cons hi, List.sum_cons]
        rw [List.getElem?_eq_getElem hi] at hs0
        rw [Option.some.inj hs0]
      omega
    have hne : ¬ (s0 : Int) = 0 := by omega
    have hs4 : s0 ≤ 4096 := by rcases hs s0 hs0m with h | h | h | h <;> omega
    obtain ⟨hx1, hfg, hlt6⟩ := blk_hx hat1 (hs s0 hs0m)
    have hDl : ∀ p ∈ news, p.1 ≠ D := fun p hp => Nat.ne_of_lt (hDlt p hp)
    have hyl : ys.length ≤ 20 := by
      rw [hys.length, List.length_map, List.length_take]; omega
    k_steps
    rw [fdivN]
    refine place (by rw [Int.natAbs_natCast]; exact hlt6) (by rw [Int.natAbs_natCast]; exact hx1) ⟨by k_asm, by k_asm, by k_asm, by k_asm, by k_asm, by first | exact rfl | assumption, by ktr_room, by ktr_units⟩ ?_
    intro t3 h3 tk3 F3 N3
    k_steps
    refine FI.appendD (by k_asm) N3 (Ne.symm (Nat.ne_of_lt hDI)) hDl (by omega) ?_
    intro h4 F4 N4
    k_steps
    with_reducible rename Fr _ _ _ _ => F5
    with_reducible rename News _ _ _ _ => N5
    have hsum1 : (ss.take (i + 1)).sum = (ss.take i).sum + s0 := by rw [List.take_add_one, hs0, Option.toList_some, List.sum_append]; simp
    refine FI.turnL_next F5 N5 (fun p hp => hp) (fun p hp => ?_) ⟨fun z hz => ?_, at_is ?_, ys ++ [_], rfl, ?_⟩
    · rcases List.mem_cons.mp hp with rfl | hp
      · exact Nat.ne_of_lt hDI
      · exact Nat.ne_of_lt (hI p (.tail _ hp))
    · simp only [List.mem_cons, List.not_mem_nil, or_false, not_or] at hz
      simp only [hz.1, hz.2, if_false]
    · rw [hsum1]; omega
    · rw [List.take_add_one, wantedN_get low ss i s0 hs0, Option.toList_some, List.map_append]
      exact hys.snoc
  case fin =>
    rintro m nw h tk ⟨⟨ta, hat⟩, ys, rfl, hys⟩ F2 N2
    rw [List.take_of_length_le (by rw [wantedN_len, ints_len hvi, List.length_map]; exact Nat.le_refl _)] at hys
    simp only [FI.ovr, hat] at F2
    k_steps
    exact hret D ys _ _ hys (by assumption) (by assumption)
theorem turnL_brk {h₀ : Heap} {L : Addr} {s s₂ : Shared} {it : Addr × Obj} {J : (Str → Option Value) → List (Addr × Obj) → Prop} {Q : Flow → Shared → Prop} (h : Q .next s₂) : FI.TurnL h₀ L s it J Q .brk s₂ := h
theorem path_eq {x y : Nat} {k j : Nat} (h : k = j → x = y) : ((pathL (fg k x)).toArray.toList == (pathL (fg j y)).toArray.toList) = decide (k = j) := by
  by_cases e : k = j
  · subst e; rw [h rfl]; simp
  · rw [decide_eq_false e]
    refine Bool.eq_false_iff.mpr fun hb => e ?_
    have := path_inj (fg_lt k x) (fg_lt j y) (by simpa using hb)
    have := congrArg List.length this
    rwa [fg_len, fg_len] at this
theorem hx5 {q : Nat} (h : q < 1048576) : hx (1048576 + q) = 1 :: fg 5 q := hx_fg 5 q h
set_option maxHeartbeats 4000000 in
theorem foundW {w : World} {mean : ExcName → Option Value} {mg mb : Str → Option Value} {dp un : Nat} {gd : Option (List Code)} {cn : Str} {cs : Scope} {a : Addr} {ccd : Value} {cl : List (Str × Addr)} {outer : List Env} {A₀ : Around} {base h₀ : Heap} {L : Addr} {m : Str → Option Value} {news : List (Addr × Obj)} {s : Shared} {Q E : Value → Shared → Prop} {low high : Nat} {tl th : Tok} (h1 : 1 ≤ low) (h2 : high + 1 < 1048576) (h3 : low ≤ high) (S : Site w mean mg mb 8 dp un cs A₀ base outer h₀ L m news s.heap)
    (hret : ∀ (D : Addr) (ys : List Value) (h' : Heap) (tk' : Nat), BM.BAre ys ((foundN (low - 1) (high + 1) high 16 low).map pathL) → Fr h₀ L h' m → News h₀ L h' ((D, LCg.lst ys) :: news) → Q (.ref D) { s with heap := h', toks := tk' }) :
    wpAny (model PySem.Challenge.rw_pd0070_01.row.prog w) (ktrTop dp un gd cn cs L a ccd cl outer) (call (.ref 165) [.int (low : Int) tl, .int (high : Int) th]) Q E s := by
  obtain ⟨B, F, X, N, T, hk, hd, hu⟩ := S
  refine wpAny_call ?_
  k_dflt cell_enter
  k_steps
  have e1 : 1048576 + (low : Int) - 1 = ((1048576 + (low - 1) : Nat) : Int) := by omega
  rw [e1]
  refine place (by rw [Int.natAbs_natCast]; omega) (by rw [Int.natAbs_natCast]; exact hx5 (by omega)) ⟨by k_asm, by k_asm, by k_asm, by k_asm, by k_asm, by first | exact rfl | assumption, by ktr_room, by ktr_units⟩ ?_
  intro tu hu1 tku FU NU
  k_steps
  have e2 : 1048576 + (high : Int) + 1 = ((1048576 + (high + 1) : Nat) : Int) := by omega
  rw [e2]
  refine place (by rw [Int.natAbs_natCast]; omega) (by rw [Int.natAbs_natCast]; exact hx5 (by omega)) ⟨by k_asm, by k_asm, by k_asm, by k_asm, by k_asm, by first | exact rfl | assumption, by ktr_room, by ktr_units⟩ ?_
  intro to ho1 tko FO NO
  k_steps
  refine For_turns (by k_asm) ?_
  k_steps
  rename_i D _ hDlt _ _ _ _ _ _ _ _ _ aR FR NR _
  refine FI.range_names (n := 16) [Str.ofString "turn", Str.ofString "here", Str.ofString "floor", Str.ofString "roof", Str.ofString "step", Str.ofString "up", Str.ofString "at"] rfl FR NR aR (by decide)
    (fun i m nw => ∃ (at' : Nat) (acc : List (List Nat)) (ys : List Value), low ≤ at' ∧ (∃ t, m (Str.ofString "at") = some (.int (at' : Int) t)) ∧ nw = (D, LCg.lst ys) :: news ∧ BM.BAre ys (acc.map pathL) ∧ acc.length ≤ i ∧ acc ++ foundN (low - 1) (high + 1) high (16 - i) at' = foundN (low - 1) (high + 1) high 16 low)
    ⟨low, [], [], Nat.le_refl _, ⟨_, rfl⟩, rfl, .nil, Nat.zero_le _, rfl⟩ ?turn ?fin
  case fin =>
    rintro m nw h tk ⟨at', acc, ys, hat, ⟨ta, hta⟩, rfl, hys, hacc, hfound⟩ F2 N2
    simp only [FI.ovr, hta] at F2
    rw [Nat.sub_self, foundN, List.append_nil] at hfound
    rw [hfound] at hys
    k_steps
    exact hret D ys _ _ hys (by assumption) (by assumption)
  case turn =>
    rintro i I oI m nw t h tk hi ⟨at', acc, ys, hat, ⟨ta, hta⟩, rfl, hys, hacc, hfound⟩ hI F2 N2
    simp only [FI.ovr, hta] at F2
    have hDI : D < I := hI _ (.head _)
    have hDl : ∀ p ∈ news, p.1 ≠ D := fun p hp => Nat.ne_of_lt (hDlt p hp)
    rw [show 16 - i = (15 - i) + 1 by omega, foundN] at hfound
    clear FR NR aR
    k_steps
    · rename_i hgt
      dsimp only
      refine turnL_brk ?_
      dsimp only
      rw [if_pos (by omega), List.append_nil] at hfound
      rw [hfound] at hys
      k_steps
      exact hret D ys _ _ hys (by assumption) (kst_newsOf (by assumption) fun p hp => .tail _ hp)
    · rename_i hle
      rw [if_neg (by omega)] at hfound
      rw [show 1048576 + (at' : Int) = ((1048576 + at' : Nat) : Int) by omega]
      refine place (by rw [Int.natAbs_natCast]; omega) (by rw [Int.natAbs_natCast]; exact hx5 (by omega)) ⟨by k_asm, by k_asm, by k_asm, by k_asm, by k_asm, by first | exact rfl | assumption, by ktr_room, by ktr_units⟩ ?_
      intro th2 hh2 tkh FH NH
      k_steps
      refine cpath (pss := [fg 5 at', fg 5 (low - 1)]) (.cons (.cons .nil)) (fun ds hds => ?_) (by simp) (by simp) (.head _) ⟨by k_asm, by k_asm, by k_asm, by k_asm, by k_asm, by first | exact rfl | assumption, by ktr_room, by ktr_units⟩ ?_
      · simp only [List.mem_cons, List.not_mem_nil, or_false] at hds
        rcases hds with rfl | rfl <;> exact fg_fig (by omega) _
      intro p q tf hf' tkf hp hq hb1 hb2 FF NF
      rw [lcp_two (by simpa using hp) (by simpa using hq) (fun r hr => hb1 r (by simpa using hr)) (fun r hr => hb2 r (by simpa using hr)), lcp_fg]
      k_steps
      refine cpath (pss := [fg 5 (high + 1), fg 5 at']) (.cons (.cons .nil)) (fun ds hds => ?_) (by simp) (by simp) (.head _) ⟨by k_asm, by k_asm, by k_asm, by k_asm, by k_asm, by first | exact rfl | assumption, by ktr_room, by ktr_units⟩ ?_
      · simp only [List.mem_cons, List.not_mem_nil, or_false] at hds
        rcases hds with rfl | rfl <;> exact fg_fig (by omega) _
      clear hp hq hb1 hb2
      intro p q tf2 hf2 tkf2 hp hq hb1 hb2 FF2 NF2
      rw [lcp_two (by simpa using hp) (by simpa using hq) (fun r hr => hb1 r (by simpa using hr)) (fun r hr => hb2 r (by simpa using hr)), lcp_comm, lcp_fg]
      clear hp hq hb1 hb2
      k_steps
      refine For_turns (by k_asm) ?_
      k_steps
      rename_i aR2 FR2 NR2 _
      have hu1' := cl_le (a := at') (b := low - 1) (by omega) (by omega) (by omega)
      have ho1' := cl_le (a := at') (b := high + 1) (by omega) (by omega) (by omega)
      refine FI.range_names (n := 5) (news := (I, oI) :: (D, LCg.lst ys) :: news) [Str.ofString "step", Str.ofString "up", Str.ofString "here"] rfl FR2 (kst_newsOf NR2 fun p hp => .tail _ (.tail _ hp)) aR2 (by decide)
        (fun j m nw => nw = (I, oI) :: (D, LCg.lst ys) :: news ∧ j + kN at' (low - 1) (high + 1) ≤ 5 ∧ ∃ t, m (Str.ofString "here") = some (.bytes (pathL (fg (5 - j) (at' / 16 ^ j))).toArray t))
        ⟨rfl, by unfold kN; omega, ⟨_, by rw [Nat.pow_zero, Nat.div_one]; rfl⟩⟩ ?turn2 ?fin2
      case fin2 =>
        rintro m2 nw2 h tk ⟨rfl, hK, _⟩ F5 N5
        unfold kN at hK
        omega
      case turn2 =>
        rintro j I2 oI2 m2 nw2 t2 h tk hj ⟨rfl, hK, tH, hH⟩ hI2 F5 N5
        simp only [FI.ovr, hH] at F5
        have hI2D : (I : Nat) < I2 := hI2 _ (.head _)
        k_steps
        rw [show 5 - j = (4 - j) + 1 by omega]
        refine dirn (fg_fig (by omega) _) ⟨by k_asm, by k_asm, by k_asm, by k_asm, by k_asm, by first | exact rfl | assumption, by ktr_room, by ktr_units⟩ ?_
        intro tup hup tkup FUp NUp
        rw [fg_drop, Nat.div_div_eq_div_mul, ← Nat.pow_succ]
        k_steps
        refine eq_bytes ?_
        rw [path_eq (k := 4 - j) (j := Mine.cl at' (low - 1)) (fun h => by rw [show 5 - Mine.cl at' (low - 1) = j + 1 by omega])]
        by_cases hA : 4 - j = Mine.cl at' (low - 1)
        · rw [decide_eq_true hA]
          k_steps
          dsimp only
          refine turnL_brk ?_
          dsimp only
          have eK : kN at' (low - 1) (high + 1) = 5 - j := by unfold kN at hK ⊢; omega
          have hyl : ys.length ≤ 20 := by rw [hys.length, List.length_map]; omega
          have hne5 : fg (5 - j) (at' / 16 ^ j) ≠ [] := fun e => by have e' := congrArg List.length e; rw [fg_len, List.length_nil] at e'; omega
          have ej : (5 - ((5 - j : Nat) : Int)).toNat = j := by omega
          k_steps
          with_reducible rename News _ _ _ _ => N7
          refine FI.appendD (by k_asm) (kst_newsOf N7 fun p hp => .tail _ hp) (Ne.symm (Nat.ne_of_lt hDI)) hDl (by omega) ?_
          intro h8 F8 N8
          k_steps
          refine BM.count (by decide) fun t9 k9 => ?_
          rw [count_path (fg_fig (by omega) _) hne5, fg_len]
          k_steps
          refine pow_int_small (by omega) (by omega) (by decide) ?_
          rw [ej, show (16 : Int) ^ j = ((16 ^ j : Nat) : Int) by rw [Int.natCast_pow]; rfl]
          k_steps
          with_reducible rename Fr _ _ _ _ => F9
          with_reducible rename News _ _ _ _ => N9
          rw [eK, show 5 - (5 - j) = j by omega] at hfound
          refine FI.turnL_next F9 N9 (fun p hp => hp) (fun p hp => ?_) ⟨fun z hz => ?_, at' + 16 ^ j, acc ++ [fg (5 - j) (at' / 16 ^ j)], ys ++ [_], Nat.le_trans hat (Nat.le_add_right _ _), at_is (Int.natCast_add _ _).symm, rfl, ?_, ?_, ?_⟩
          · rcases List.mem_cons.mp hp with rfl | hp
            · exact Nat.ne_of_lt hDI
            · exact Nat.ne_of_lt (hI p (.tail _ hp))
          · simp only [List.mem_cons, List.not_mem_nil, or_false, not_or] at hz
            obtain ⟨z1, z2, z3, z4, z5, z6, z7⟩ := hz
            simp only [z1, z2, z3, z4, z5, z6, z7, if_false]
          · rw [List.map_append]
            exact hys.snoc
          · rw [List.length_append, List.length_singleton]
            omega
          · rw [show 16 - (i + 1) = 15 - i by omega, List.append_assoc]
            exact hfound
        · rw [decide_eq_false hA]
          k_steps
          refine eq_bytes ?_
          rw [path_eq (k := 4 - j) (j := Mine.cl at' (high + 1)) (fun h => by rw [show 5 - Mine.cl at' (high + 1) = j + 1 by omega])]
          by_cases hB : 4 - j = Mine.cl at' (high + 1)
          · rw [decide_eq_true hB]
            k_steps
            dsimp only
            refine turnL_brk ?_
            dsimp only
            have eK : kN at' (low - 1) (high + 1) = 5 - j := by unfold kN at hK ⊢; omega
            have hyl : ys.length ≤ 20 := by rw [hys.length, List.length_map]; omega
            have hne5 : fg (5 - j) (at' / 16 ^ j) ≠ [] := fun e => by have e' := congrArg List.length e; rw [fg_len, List.length_nil] at e'; omega
            have ej : (5 - ((5 - j : Nat) : Int)).toNat = j := by omega
            k_steps
            with_reducible rename News _ _ _ _ => N7
            refine FI.appendD (by k_asm) (kst_newsOf N7 fun p hp => .tail _ hp) (Ne.symm (Nat.ne_of_lt hDI)) hDl (by omega) ?_
            intro h8 F8 N8
            k_steps
            refine BM.count (by decide) fun t9 k9 => ?_
            rw [count_path (fg_fig (by omega) _) hne5, fg_len]
            k_steps
            refine pow_int_small (by omega) (by omega) (by decide) ?_
            rw [ej, show (16 : Int) ^ j = ((16 ^ j : Nat) : Int) by rw [Int.natCast_pow]; rfl]
            k_steps
            with_reducible rename Fr _ _ _ _ => F9
            with_reducible rename News _ _ _ _ => N9
            rw [eK, show 5 - (5 - j) = j by omega] at hfound
            refine FI.turnL_next F9 N9 (fun p hp => hp) (fun p hp => ?_) ⟨fun z hz => ?_, at' + 16 ^ j, acc ++ [fg (5 - j) (at' / 16 ^ j)], ys ++ [_], Nat.le_trans hat (Nat.le_add_right _ _), at_is (Int.natCast_add _ _).symm, rfl, ?_, ?_, ?_⟩
            · rcases List.mem_cons.mp hp with rfl | hp
              · exact Nat.ne_of_lt hDI
              · exact Nat.ne_of_lt (hI p (.tail _ hp))
            · simp only [List.mem_cons, List.not_mem_nil, or_false, not_or] at hz
              obtain ⟨z1, z2, z3, z4, z5, z6, z7⟩ := hz
              simp only [z1, z2, z3, z4, z5, z6, z7, if_false]
            · rw [List.map_append]
              exact hys.snoc
            · rw [List.length_append, List.length_singleton]
              omega
            · rw [show 16 - (i + 1) = 15 - i by omega, List.append_assoc]
              exact hfound
          · rw [decide_eq_false hB]
            k_steps
            with_reducible rename Fr _ _ _ _ => F9
            with_reducible rename News _ _ _ _ => N9
            refine FI.turnL_next F9 N9 (fun p hp => hp) (fun p hp => Nat.ne_of_lt (hI2 p hp)) ⟨fun z hz => ?_, rfl, ?_, tup, ?_⟩
            · simp only [List.mem_cons, List.not_mem_nil, or_false, not_or] at hz
              obtain ⟨z1, z2, z3⟩ := hz
              simp only [z1, z2, z3, if_false]
            · unfold kN at hK ⊢
              omega
            · rw [show 5 - (j + 1) = 4 - j by omega]
              exact if_pos rfl
section
variable {prog : Program} {w : World} {A : Around} {E : Value → Shared → Prop} {s : Shared} {h₀ : Heap} {L : Addr} {m : Str → Option Value} {news : List (Addr × Obj)}
def sameB (x : List UInt8) : Value → Bool
  | .bytes b _ => decide (b.toList = x)
  | _ => false
theorem anyB {x : List UInt8} : ∀ {vs : List Value} {bs : List (List UInt8)}, BM.BAre vs bs → vs.any (sameB x) = decide (x ∈ bs)
  | _, _, .nil => by simp
  | _, _, .cons (b := b) h => by
    rw [List.any_cons, anyB h]
    by_cases e : b = x
    · subst e; simp [sameB]
    · have e' : ¬ x = b := fun q => e q.symm
      simp [sameB, e, e']
theorem memB : ∀ {vs : List Value} {bs : List (List UInt8)}, BM.BAre vs bs → ∀ v ∈ vs, ∃ b t, v = .bytes b t
  | _, _, .nil, _, h => by cases h
  | _, _, .cons h, v, hv => by
    rcases List.mem_cons.mp hv with rfl | hv
    · exact ⟨_, _, rfl⟩
    · exact memB h v hv
theorem inB {l : Addr} {vs : List Value} {bs : List (List UInt8)} {n : Nat} {x : List UInt8} {t : Tok} {Q : Value → Shared → Prop} (N : News h₀ L s.heap news) (hm : (l, listOf vs.toArray n) ∈ news) (hv : BM.BAre vs bs) (h : Q (.bool (decide (x ∈ bs))) s) :
    wpAny (model prog w) A (compareOp .In (.bytes x.toArray t) (.ref l)) Q E s := by
  refine PySem.SeqInW.in_listW (sameB x) (fun y hy => ?_) ⟨_, (N _ hm).1, rfl, _, rfl⟩ ?_
  · obtain ⟨b, u, rfl⟩ := memB hv y (by simpa using hy)
    intro prog w A E s Q hq
    exact eqBool_bytes hq
  · rw [show vs.toArray.any (sameB x) = vs.any (sameB x) by simp, anyB hv]
    exact h
theorem neSame {a b : Addr} {vs ws : List Value} {bs : List (List UInt8)} {i j : Nat} {Q : Value → Shared → Prop} (hu : A.units < cLine) (N : News h₀ L s.heap news) (ha : (a, listOf vs.toArray i) ∈ news) (hb : (b, listOf ws.toArray j) ∈ news) (hv : BM.BAre vs bs) (hw : BM.BAre ws bs) (h : Q (.bool false) s) :
    wpAny (model prog w) A (compareOp .NotEq (.ref a) (.ref b)) Q E s := by
  have hl : vs.toArray.size = ws.toArray.size := by rw [List.size_toArray, List.size_toArray, hv.length, hw.length]
  have ta : s.heap.IsList a vs.toArray := ⟨_, (N _ ha).1, rfl, _, rfl⟩
  have tb : s.heap.IsList b ws.toArray := ⟨_, (N _ hb).1, rfl, _, rfl⟩
  show wpAny _ _ (richCompare .NotEq (.ref a) (.ref b)) Q E s
  refine wpAny_richCompare_same_room ta.typeIs tb.typeIs PySem.F.slot_list_ne (call_meets PySem.F.slot_list_ne ta.typeIs PySem.F.entry_list_ne (PySem.F.args_list_ne_2 _ _) (SeqAt.list_neAt a b vs.toArray ws.toArray i j none none #[] #[] hl (fun _ => true)) ⟨(N _ ha).1, (N _ hb).1, fun k h1 h2 => ?_, ?_⟩) hu
  · have hk1 : k < vs.length := by simpa using h1
    have hk2 : k < ws.length := by simpa using h2
    have hkb : k < bs.length := by rw [← hv.length]; exact hk1
    obtain ⟨t1, e1⟩ := hv.get k bs[k] (by simp [hkb])
    obtain ⟨t2, e2⟩ := hw.get k bs[k] (by simp [hkb])
    rw [List.getElem?_eq_getElem hk1] at e1
    rw [List.getElem?_eq_getElem hk2] at e2
    have e1' := Option.some.inj e1
    have e2' := Option.some.inj e2
    rw [List.getElem_toArray, List.getElem_toArray, e1', e2']
    intro prog w E Q hq
    exact eqBool_bytes (by simpa using hq)
  · rw [show (!(List.range vs.toArray.size).all fun _ => true) = false by simp]
    exact ⟨(fun e => nomatch e), h⟩
end
theorem mem_paths {ds : List Nat} {pss : List (List Nat)} (hd : ∀ d ∈ ds, d < 16) (hp : ∀ x ∈ pss, ∀ d ∈ x, d < 16) : decide (pathL ds ∈ pss.map pathL) = decide (ds ∈ pss) := by
  rw [decide_eq_decide]
  constructor
  · intro h
    obtain ⟨x, hx, e⟩ := List.mem_map.mp h
    rw [← path_inj (hp x hx) hd e]
    exact hx
  · exact fun h => List.mem_map.mpr ⟨ds, h, rfl⟩
set_option maxHeartbeats 4000000 in
theorem metW {w : World} {mean : ExcName → Option Value} {mg mb : Str → Option Value} {dp un : Nat} {gd : Option (List Code)} {cn : Str} {cs : Scope} {a : Addr} {ccd : Value} {cl : List (Str × Addr)} {outer : List Env} {A₀ : Around} {base h₀ : Heap} {L : Addr} {m : Str → Option Value} {news : List (Addr × Obj)} {s : Shared} {Q E : Value → Shared → Prop} {q : Nat} {tq : Tok} {fd : Addr} {fvs : List Value} {n : Nat} {pss : List (List Nat)} (hq : q < 1048576) (hps : ∀ x ∈ pss, ∀ d ∈ x, d < 16) (hvf : BM.BAre fvs (pss.map pathL)) (hmf : (fd, listOf fvs.toArray n) ∈ news) (S : Site w mean mg mb 4 dp un cs A₀ base outer h₀ L m news s.heap)
    (hret : ∀ (t : Tok) (h' : Heap) (tk' : Nat), Fr h₀ L h' m → News h₀ L h' news → Q (.int (metU pss q 5 : Int) t) { s with heap := h', toks := tk' }) :
    wpAny (model PySem.Challenge.rw_pd0070_01.row.prog w) (ktrTop dp un gd cn cs L a ccd cl outer) (call (.ref 179) [.int (q : Int) tq, .ref fd]) Q E s := by
  obtain ⟨B, F, X, N, T, hk, hd, hu⟩ := S
  refine wpAny_call ?_
  k_dflt cell_enter
  k_steps
  have e1 : (-1048576 - (q : Int)).natAbs = 1048576 + q := by omega
  refine place (by rw [e1]; omega) (by rw [e1]; exact hx5 hq) ⟨by k_asm, by k_asm, by k_asm, by k_asm, by k_asm, by first | exact rfl | assumption, by ktr_room, by ktr_units⟩ ?_
  intro tu hu1 tku FU NU
  k_steps
  refine For_turns (by k_asm) ?_
  k_steps
  rename_i aR FR NR _
  refine FI.range_names (n := 5) [Str.ofString "step", Str.ofString "here", Str.ofString "count"] rfl FR NR aR (by decide)
    (fun j m nw => nw = news ∧ (∃ t, m (Str.ofString "here") = some (.bytes (pathL (fg (5 - j) (q / 16 ^ j))).toArray t)) ∧ ∃ t, m (Str.ofString "count") = some (.int (metU pss q j : Int) t))
    ⟨rfl, ⟨_, by rw [Nat.pow_zero, Nat.div_one]; rfl⟩, ⟨_, rfl⟩⟩ ?turn ?fin
  case fin =>
    rintro m2 nw h tk ⟨rfl, ⟨tH, hH⟩, tC, hC⟩ F2 N2
    simp only [FI.ovr, hH, hC] at F2
    k_steps
    refine ne_bytes ?_
    rw [show ((pathL (fg (5 - 5) (q / 16 ^ 5))).toArray.toList != (#[47] : Array UInt8).toList) = false from rfl]
    k_steps
    exact hret _ _ _ (by assumption) (by assumption)
  case turn =>
    rintro j I oI m2 nw t h tk hj ⟨rfl, ⟨tH, hH⟩, tC, hC⟩ hI F2 N2
    simp only [FI.ovr, hH, hC] at F2
    clear FR NR aR
    k_steps
    refine inB (by k_asm) (.tail _ hmf) hvf ?_
    rw [mem_paths (fg_lt _ _) hps]
    by_cases hin : fg (5 - j) (q / 16 ^ j) ∈ pss
    · rw [decide_eq_true hin]
      k_steps
      rw [show 5 - j = (4 - j) + 1 by omega]
      refine dirn (fg_fig (by omega) _) ⟨by k_asm, by k_asm, by k_asm, by k_asm, by k_asm, by first | exact rfl | assumption, by ktr_room, by ktr_units⟩ ?_
      intro tup hup tkup FUp NUp
      rw [fg_drop, Nat.div_div_eq_div_mul, ← Nat.pow_succ]
      k_steps
      with_reducible rename Fr _ _ _ _ => F9
      with_reducible rename News _ _ _ _ => N9
      refine FI.turnL_next F9 N9 (fun p hp => hp) (fun p hp => Nat.ne_of_lt (hI p hp)) ⟨fun z hz => ?_, rfl, ⟨tup, ?_⟩, ?_⟩
      · simp only [List.mem_cons, List.not_mem_nil, or_false, not_or] at hz
        obtain ⟨z1, z2, z3⟩ := hz
        simp only [z1, z2, z3, if_false]
      · rw [show 5 - (j + 1) = 4 - j by omega]
        exact if_pos rfl
      · exact ⟨_, by rw [show ((metU pss q (j + 1) : Nat) : Int) = (metU pss q j : Int) + 1 by rw [metU, if_pos hin]; omega]; rfl⟩
    · rw [decide_eq_false hin]
      k_steps
      rw [show 5 - j = (4 - j) + 1 by omega]
      refine dirn (fg_fig (by omega) _) ⟨by k_asm, by k_asm, by k_asm, by k_asm, by k_asm, by first | exact rfl | assumption, by ktr_room, by ktr_units⟩ ?_
      intro tup hup tkup FUp NUp
      rw [fg_drop, Nat.div_div_eq_div_mul, ← Nat.pow_succ]
      k_steps
      with_reducible rename Fr _ _ _ _ => F9
      with_reducible rename News _ _ _ _ => N9
      refine FI.turnL_next F9 N9 (fun p hp => hp) (fun p hp => Nat.ne_of_lt (hI p hp)) ⟨fun z hz => ?_, rfl, ⟨tup, ?_⟩, ?_⟩
      · simp only [List.mem_cons, List.not_mem_nil, or_false, not_or] at hz
        obtain ⟨z1, z2, z3⟩ := hz
        simp only [z1, z2, z3, if_false]
      · rw [show 5 - (j + 1) = 4 - j by omega]
        exact if_pos rfl
      · exact ⟨_, by rw [show ((metU pss q (j + 1) : Nat) : Int) = (metU pss q j : Int) by rw [metU, if_neg hin, Nat.add_zero]]; rfl⟩
set_option maxHeartbeats 4000000 in
theorem membersW {w : World} {mean : ExcName → Option Value} {mg mb : Str → Option Value} {dp un : Nat} {gd : Option (List Code)} {cn : Str} {cs : Scope} {a : Addr} {ccd : Value} {cl : List (Str × Addr)} {outer : List Env} {A₀ : Around} {base h₀ : Heap} {L : Addr} {m : Str → Option Value} {news : List (Addr × Obj)} {s : Shared} {Q E : Value → Shared → Prop} {qs : List Nat} {nv : List Value} {na : Addr} {n1 : Nat} {low high : Nat} {tl th : Tok} {fd : Addr} {fvs : List Value} {n : Nat} {pss : List (List Nat)} (hqs : ∀ q ∈ qs, q < 1048576 ∧ metU pss q 5 = if low ≤ q ∧ q ≤ high then 1 else 0) (hvn : IntsAre nv (qs.map Int.ofNat)) (hmn : (na, listOf nv.toArray n1) ∈ news)
    (hps : ∀ x ∈ pss, ∀ d ∈ x, d < 16) (hvf : BM.BAre fvs (pss.map pathL)) (hmf : (fd, listOf fvs.toArray n) ∈ news) (S : Site w mean mg mb 6 dp un cs A₀ base outer h₀ L m news s.heap)
    (hret : ∀ (h' : Heap) (tk' : Nat), Fr h₀ L h' m → News h₀ L h' news → Q (.bool true) { s with heap := h', toks := tk' }) :
    wpAny (model PySem.Challenge.rw_pd0070_01.row.prog w) (ktrTop dp un gd cn cs L a ccd cl outer) (call (.ref 186) [.ref na, .int (low : Int) tl, .int (high : Int) th, .ref fd]) Q E s := by
  obtain ⟨B, F, X, N, T, hk, hd, hu⟩ := S
  refine wpAny_call ?_
  k_dflt cell_enter
  k_steps
  refine For_turns (by k_asm) ?_
  k_steps
  refine FI.list_names (vs := nv) (n := n1) [Str.ofString "number"] rfl (by k_asm) (by k_asm) hmn (fun j m nw => nw = news) rfl (fun j m nw e => e ▸ hmn) ?turn ?fin
  case fin =>
    rintro m2 nw h tk rfl F2 N2
    k_steps
    exact hret _ _ (by assumption) (by assumption)
  case turn =>
    rintro j v I oI m2 nw h tk hv rfl hI F2 N2
    obtain ⟨q, tq, hq, rfl⟩ := ints_nat hvn hv
    obtain ⟨hq1, hq2⟩ := hqs q (List.mem_of_getElem? hq)
    simp only [FI.ovr] at F2
    k_steps
    refine metW hq1 hps hvf (.tail _ hmf) ⟨by k_asm, by k_asm, by k_asm, by k_asm, by k_asm, by first | exact rfl | assumption, by ktr_room, by ktr_units⟩ ?_
    intro tm hm1 tkm FM NM
    rw [hq2]
    by_cases hin : low ≤ q ∧ q ≤ high
    · rw [if_pos hin]
      obtain ⟨i1, i2⟩ := hin
      have j1 : (low : Int) ≤ q := by omega
      have j2 : (q : Int) ≤ high := by omega
      k_steps
      refine FI.turnL_next FM NM (fun p hp => hp) (fun p hp => Nat.ne_of_lt (hI p hp)) ⟨fun z hz => ?_, rfl⟩
      simp only [List.mem_cons, List.not_mem_nil, or_false] at hz
      simp only [hz, if_false]
    · rw [if_neg hin]
      k_steps
      all_goals (
        refine FI.turnL_next FM NM (fun p hp => hp) (fun p hp => Nat.ne_of_lt (hI p hp)) ⟨fun z hz => ?_, rfl⟩
        simp only [List.mem_cons, List.not_mem_nil, or_false] at hz
        simp only [hz, if_false])
end
section
open PySem PySem.W PyProof.Rows
set_option Elab.async false
set_option maxRecDepth 100000
set_option maxHeartbeats 0
/-- the top's run over a tree of objects -/
noncomputable def topRunT (tb : String → Option Builtin) (p : Program) (w : World) (n₀ : Nat) (ann : Option Value) : Nat → SharedT → Thread → Option SharedT
  | 0, _, _ => none
  | n + 1, s, t => match through t with
    | true => some s
    | false => match stepOk n₀ ann t with
      | false => none
      | true => match stepT (denote tb) p w s t with
        | some (s', t') => topRunT tb p w n₀ ann n s' t'
        | none => none
theorem topRun_of {tb : String → Option Builtin} {p : Program} {w : World} {n₀ : Nat} {ann : Option Value} : ∀ {n : Nat} {s s' : SharedT} {t : Thread}, topRunT tb p w n₀ ann n s t = some s' → topRun tb p w n₀ ann n s.abs t = some s'.abs
  | 0, _, _, _, h => by cases h
  | n + 1, s, s', t, h => by
    unfold topRunT at h
    unfold topRun
    cases he : through t with
    | true => rw [he] at h; cases h; rfl
    | false =>
      rw [he] at h
      cases hk : stepOk n₀ ann t with
      | false => rw [hk] at h; cases h
      | true =>
        rw [hk] at h
        cases hs : stepT (denote tb) p w s t with
        | none => rw [hs] at h; cases h
        | some r => obtain ⟨s₂, t₂⟩ := r; rw [hs] at h; rw [stepT_spec hs]; exact topRun_of h
/-- the objects of a list, laid into a tree -/
noncomputable def laidT (l : List Obj) : BT × Nat := l.foldl (fun t o => (t.1.ins t.2 o, t.2 + 1)) (.nil, 0)
noncomputable def start₀ (w : World) (os : OsState) : SharedT := ⟨(laidT (boot_heap w.params).objs.toList).1, (laidT (boot_heap w.params).objs.toList).2, (boot_heap w.params).life, Array.mk [], boot_drawn, boot_toks, os⟩
theorem start_abs (w : World) (os : OsState) : (⟨boot_heap w.params, Array.mk [], boot_drawn, boot_toks, os⟩ : Shared) = (start₀ w os).abs := by kernel_rfl
theorem start_size (w : World) : ((boot_heap w.params).isNs mainGlobals && (Array.mk [] : Array GenState).size == 0, (boot_heap w.params).objs.size, (boot_heap w.params).nsMap mainGlobals "__annotations__") = (true, 11, some (.ref 6)) := by kernel_rfl
/-- the top from its run over a tree -/
theorem left_tree {p q : Program} {loose : List Str} {Xt : Shared → Bool} {α : Type} {Yf : Shared → α} {Ya : World → α} {N : Nat}
    (open_ : ∀ w : World, (fencedOpening treeTable p w N).map (fun s => (s.heap, s.gens, s.drawn, s.toks)) = some (boot_heap w.params, Array.mk [], boot_drawn, boot_toks))
    (run : ∀ (w : World) (os : OsState), (topRunT treeTable p w 11 (some (.ref 6)) N (start₀ w os) (topStub p)).map (fun t =>
      (staticsOk (importedModules p.main.body) (boot_heap w.params) t.abs.heap && namesBound p t.abs.heap && gensDone t.abs && laidKept (boot_heap w.params) t.abs.heap, openSeen q loose (importedModules p.main.body) Xt true t.abs, Yf t.abs)) = some (true, openGood q loose, Ya w)) :
    LeftO p q loose Xt Yf Ya N := fun w => by
  obtain ⟨⟨h, gs, d, k, os⟩, e, e'⟩ := Option.map_eq_some_iff.mp (open_ w)
  obtain ⟨rfl, rfl, rfl, rfl⟩ : h = boot_heap w.params ∧ gs = Array.mk [] ∧ d = boot_drawn ∧ k = boot_toks := by simpa using e'
  obtain ⟨z1, z2, z3⟩ : _ ∧ _ ∧ _ := by simpa only [Prod.mk.injEq] using start_size w
  obtain ⟨sT, r, l⟩ := Option.map_eq_some_iff.mp (run w os)
  obtain ⟨l1, l2⟩ := Prod.mk.inj l
  have r' := topRun_of r
  rw [← start_abs] at r'
  have t : topFrom treeTable p w N ⟨boot_heap w.params, Array.mk [], boot_drawn, boot_toks, os⟩ = some sT.abs := by
    unfold topFrom
    dsimp only
    rw [z1, z2, z3, r']
    show (match staticsOk (importedModules p.main.body) (boot_heap w.params) sT.abs.heap && namesBound p sT.abs.heap && gensDone sT.abs && laidKept (boot_heap w.params) sT.abs.heap with | true => _ | false => _) = _
    rw [l1]
  unfold openEnds
  rw [e]
  show (topFrom treeTable p w N _).map _ = _
  rw [t]
  exact congrArg some l2
noncomputable abbrev hook : Hook := kHook kap [3, 93, 94, 107, 108, 114, 115, 119, 120, 126, 127, 131, 132, 136, 137, 143, 144, 150, 151, 157, 158, 164, 165, 171, 172, 178, 179, 185, 186, 190, 191] (fun _ => by kernel_rfl)
noncomputable abbrev looked : Shared → Bool := fun s => xlAt viewP [] s && recOk PySem.Challenge.rw_pd0070_01.row.records s
theorem opens (w : World) : (fencedOpening treeTable PySem.Challenge.rw_pd0070_01.row.prog w 2474).map (fun s => (s.heap, s.gens, s.drawn, s.toks)) = some (boot_heap w.params, Array.mk [], boot_drawn, boot_toks) :=
  boot_open (by kernel_rfl) (by decide) (fun s => by kernel_rfl) w
/-- the whole top, run in one check -/
theorem left : LeftO PySem.Challenge.rw_pd0070_01.row.prog viewP [] looked hook.obs hook.val 2474 := left_tree opens fun w os => by kernel_rfl
theorem said_meet : namesMeet PySem.Challenge.rw_pd0070_01.row.prog PySem.Challenge.rw_pd0070_01.row.prog.main.body (fun _ n => attrL n) = true := by kernel_rfl
theorem said_looks : looksOpen PySem.Challenge.rw_pd0070_01.row.prog = true := by
  unfold looksOpen
  repeat' with_reducible refine look_both ?_ ?_
  all_goals first | with_reducible exact said_meet | kernel_rfl
theorem said_row : PySem.Challenge.rw_pd0070_01.row.wellSaid = true := by
  unfold OpenRow.wellSaid OpenRow.partSaid
  repeat' with_reducible refine look_both ?_ ?_
  all_goals first | with_reducible exact said_looks | kernel_rfl
theorem said : PySem.Challenge.rw_pd0070_01.wellSaid = true := by
  unfold OpenLaw.wellSaid
  repeat' with_reducible refine look_both ?_ ?_
  all_goals first | with_reducible exact said_row | kernel_rfl

end
section
local macro_rules | `(tactic| k_steps) => `(tactic| repeat' (first | (k_unfold; (try dsimp only)) | (k_end; wrow_close) | ((fail_if_success (with_reducible show wpAny _ _ (exec (Stmt.While _ _ _ _) _) _ _ _)); (fail_if_success (with_reducible show wpAny _ _ (storeName _ (PySem.Str.ofString "low") (Value.int (HSub.hSub _ _) _)) _ _ _)); (fail_if_success (with_reducible show wpAny _ _ (storeName _ (PySem.Str.ofString "high") (Value.int (HAdd.hAdd _ _) _)) _ _ _)); (fail_if_success (with_reducible show wpAny _ _ (binaryOp Operator.FloorDiv _ _) _ _ _)); (fail_if_success (with_reducible show wpAny _ _ (binaryOp Operator.Mod _ _) _ _ _)); (fail_if_success (with_reducible show wpAny _ _ (call (Value.builtin "bytes.join") _) _ _ _)); (fail_if_success (with_reducible show wpAny _ _ (truthy (Value.bytes _ _)) _ _ _)); (fail_if_success (with_reducible show wpAny _ _ (call (Value.builtin "min") _) _ _ _)); (fail_if_success (with_reducible show wpAny _ _ (binaryOp Operator.Pow _ _) _ _ _)); (fail_if_success (with_reducible show wpAny _ _ (call (Value.builtin "list.append") _) _ _ _)); (fail_if_success (with_reducible show wpAny _ _ (call (Value.builtin "bytes.count") _) _ _ _)); (fail_if_success (with_reducible show wpAny _ _ (compareOp _ (Value.bytes _ _) (Value.bytes _ _)) _ _ _)); (fail_if_success (with_reducible show wpAny _ _ (compareOp _ (Value.bytes _ _) (Value.ref _)) _ _ _)); (fail_if_success (with_reducible show wpAny _ _ (compareOp _ (Value.ref _) (Value.ref _)) _ _ _)); (fail_if_success (with_reducible show wpAny _ _ (binaryOp Operator.Add (Value.ref _) (Value.ref _)) _ _ _)); (fail_if_success (with_reducible show wpAny _ _ (pyIter _) _ _ _)); (fail_if_success (with_reducible show FI.TurnL _ _ _ _ _ _ _ _)); (fail_if_success (with_reducible show FI.Turn _ _ _ _ _ _ _ _)); (fail_if_success (with_reducible show wpAny _ _ (call (Value.builtin "max") _) _ _ _)); (fail_if_success (with_reducible show wpAny _ _ (call (Value.builtin "bytes.split") _) _ _ _)); (fail_if_success (with_reducible show wpAny _ _ (call (Value.builtin "bytes.startswith") _) _ _ _)); (fail_if_success (with_reducible show wpAny _ _ (call (Value.type "map") _) _ _ _)); (fail_if_success (with_reducible show wpAny _ _ (call (Value.type "tuple") _) _ _ _)); (fail_if_success (with_reducible show wpAny _ _ (call (Value.type "enumerate") _) _ _ _)); (fail_if_success (with_reducible show wpAny _ _ (eval (Expr.SetComp _ _ _ _) _) _ _ _)); (fail_if_success (with_reducible show wpAny _ _ (exec (Stmt.Try _ _ _ _ _) _) _ _ _)); (fail_if_success (with_reducible show wpAny _ _ (truthy (Value.ref _)) _ _ _)); (fail_if_success (with_reducible show wpAny _ _ (subscriptTail _ _ (Value.ref _) (Value.ref _)) _ _ _)); (fail_if_success (with_reducible show wpAny _ _ (binaryOp _ (Value.bytes _ _) (Value.bytes _ _)) _ _ _)); (fail_if_success (with_reducible show CT.TupSrc _ _ _ _ _ _ _ _ _ _ _ _ _ _)); (fail_if_success (with_reducible show CS.Src _ _ _ _ _ _ _ _ _ _ _ _ _ _)); (fail_if_success (with_reducible show LCt.CompSrcT _ _ _ _ _ _ _ _ _ _ _ _ _ _ _)); (fail_if_success (with_reducible show wpAny _ _ (exec (Stmt.For _ _ _ _ _) _) _ _ _)); (fail_if_success (with_reducible show wpAny _ _ (call (Value.ref _) _) _ _ _)); (fail_if_success (with_reducible show wpAny _ _ (eval (Expr.ListComp _ _ _ _) _) _ _ _)); (fail_if_success (with_reducible show wpAny _ _ (exec (Stmt.Assign _ (Expr.ListComp _ _ _ _) _) _) _ _ _)); (fail_if_success (with_reducible show LCg.CompSrc _ _ _ _ _ _ _ _ _ _ _ _ _ _)); (fail_if_success (with_reducible show LCg.CompEnd _ _ _ _ _ _ _ _ _ _ _ _ _ _)); (first | walk1 | (dsimp only; walk1))) | (leave1; walk_say "STEP leave1"; try dsimp only) | fail "no step"))
local macro_rules | `(tactic| walk_at "subscriptTail") => `(tactic| (k_here; (with_reducible show wpAny _ _ (subscriptTail _ _ (Value.ref _) (Value.int _ _)) _ _ _); (with_unfolding_all refine' item_litK ?k1 ?k2 ?k3 ?k4 ?_ ?k6; (case k1 => exact News.isList (by k_asm) (by k_mem)); (case k2 => decide); (case k3 => decide); (case k4 => rfl); (case k6 => with_unfolding_all rfl))))
theorem led_a {h₀ h : Heap} {L : Addr} {a b c d e f g : Addr × Obj} {r : List (Addr × Obj)} (N : News h₀ L h (a :: b :: c :: d :: e :: f :: g :: r)) : News h₀ L h (b :: g :: r) := fun p hp => by
  rcases List.mem_cons.mp hp with rfl | hp
  · exact N _ (.tail _ (.head _))
  rcases List.mem_cons.mp hp with rfl | hp
  · exact N _ (.tail _ (.tail _ (.tail _ (.tail _ (.tail _ (.tail _ (.head _)))))))
  · exact N _ (.tail _ (.tail _ (.tail _ (.tail _ (.tail _ (.tail _ (.tail _ hp)))))))
theorem led_b {h₀ h : Heap} {L : Addr} {a b c d e f : Addr × Obj} {r : List (Addr × Obj)} (N : News h₀ L h (a :: b :: c :: d :: e :: f :: r)) : News h₀ L h (a :: e :: f :: r) := fun p hp => by
  rcases List.mem_cons.mp hp with rfl | hp
  · exact N _ (.head _)
  rcases List.mem_cons.mp hp with rfl | hp
  · exact N _ (.tail _ (.tail _ (.tail _ (.tail _ (.head _)))))
  rcases List.mem_cons.mp hp with rfl | hp
  · exact N _ (.tail _ (.tail _ (.tail _ (.tail _ (.tail _ (.head _))))))
  · exact N _ (.tail _ (.tail _ (.tail _ (.tail _ (.tail _ (.tail _ hp))))))
theorem cut_from {l : List Value} : kms_pick l.toArray.toList (some 1) none = l.drop 1 := by
  cases l with
  | nil => rfl
  | cons a l =>
    simp only [kms_pick, kms_lo, kms_hi]
    rw [if_neg (by decide), show Int.toNat 1 = 1 from rfl, Nat.min_eq_left (by simp)]
    exact List.take_of_length_le (by simp)
theorem cut_to {l : List Value} : kms_pick l.toArray.toList none (some 1) = l.take 1 := by
  cases l with
  | nil => rfl
  | cons a l =>
    simp only [kms_pick, kms_lo, kms_hi]
    rw [if_neg (by decide), show Int.toNat 1 = 1 from rfl, Nat.min_eq_left (by simp)]
    rfl
theorem cut_3 {l : List Value} : kms_pick l.toArray.toList none (some 3) = l.take 3 := by
  simp only [kms_pick, kms_lo, kms_hi]
  rw [if_neg (by decide), show Int.toNat 3 = 3 from rfl, List.drop_zero, Nat.sub_zero]
  exact kmk_take_min l 3
theorem int_cons {x y : Int} {t : Tok} {vs : List Value} {ns : List Int} (e : x = y) (h : IntsAre vs ns) : IntsAre (.int x t :: vs) (y :: ns) := by
  subst e; exact .cons _ _ h
theorem bare_app : ∀ {vs ws : List Value} {bs cs : List (List UInt8)}, BM.BAre vs bs → BM.BAre ws cs → BM.BAre (vs ++ ws) (bs ++ cs)
  | _, _, _, _, .nil, h => h
  | _, _, _, _, .cons g, h => .cons (bare_app g h)
theorem addNums {prog : Program} {w : World} {A : Around} {E : Value → Shared → Prop} {s : Shared} {h₀ : Heap} {L : Addr} {m : Str → Option Value} {news : List (Addr × Obj)} {a b : Addr} {x1 x2 x3 x4 x5 : Int} {y1 y2 y3 y4 y5 : Nat} {t1 t2 t3 t4 t5 : Tok} {zs : List Value} {qs : List Nat} {Q : Value → Shared → Prop}
    (e1 : x1 = (y1 : Int)) (e2 : x2 = (y2 : Int)) (e3 : x3 = (y3 : Int)) (e4 : x4 = (y4 : Int)) (e5 : x5 = (y5 : Int)) (F : Fr h₀ L s.heap m) (N : News h₀ L s.heap news)
    (ha : (a, listOf #[.int x1 t1, .int x2 t2, .int x3 t3, .int x4 t4, .int x5 t5] 0) ∈ news) (hb : (b, LCg.lst zs) ∈ news) (hz : zs.length ≤ 3) (hq : IntsAre zs (qs.map Int.ofNat))
    (h : ∀ D vs h', IntsAre vs (([y1, y2, y3, y4, y5] ++ qs).map Int.ofNat) → Fr h₀ L h' m → News h₀ L h' ((D, listOf vs.toArray 0) :: news) → Q (.ref D) { s with heap := h' }) : wpAny (model prog w) A (binaryOp .Add (.ref a) (.ref b)) Q E s := by
  subst e1 e2 e3 e4 e5
  refine addCat (vs := [.int y1 t1, .int y2 t2, .int y3 t3, .int y4 t4, .int y5 t5]) (ws := zs) (i := 0) (j := zs.length) F N ha hb (by simp only [List.length_cons, List.length_nil]; omega) fun D h' F' N' _ => h D _ h' ?_ F' N'
  exact .cons _ _ (.cons _ _ (.cons _ _ (.cons _ _ (.cons _ _ hq))))
theorem rot_bare {vs : List Value} {pss : List (List Nat)} (h : BM.BAre vs (pss.map pathL)) : BM.BAre (vs.drop 1 ++ vs.take 1) ((pss.drop 1 ++ pss.take 1).map pathL) := by
  cases pss with
  | nil => cases h; exact .nil
  | cons x pss => cases h with
    | cons h => rw [List.map_append]; exact bare_app h (.cons .nil)
theorem rot_mem {α : Type} {x : α} {l : List α} : x ∈ l.drop 1 ++ l.take 1 ↔ x ∈ l := by
  cases l with
  | nil => simp
  | cons a l => simp [or_comm]
theorem rot_ne {α : Type} {l : List α} (h : 0 < l.length) : l.drop 1 ++ l.take 1 ≠ [] := by
  cases l with
  | nil => simp at h
  | cons a l => simp
set_option maxHeartbeats 4000000 in
theorem law_end {cl : Str → Option Addr} {mean : ExcName → Option Value} {ns : List Int} {s₁ s' : Shared} {L : Addr} {m : Str → Option Value} (hn : ¬ 63 < ns.length) (F : Fr s₁.heap L s'.heap m) (hg : s'.gens = #[]) (hos : s'.os = s₁.os) :
    GoodW PySem.Challenge.rw_pd0070_01.row.claim cl mean [ofPy (PyData.list (List.map PyData.int ns))] s₁ (Except.ok (Flow.ret (Value.bool true))) s' := by
  refine goodW_bool F hg (raisesW_false ?hr1) ?hr2 hos
  case hr1 => wrow_none_raised
  case hr2 => wrow_post
set_option maxHeartbeats 8000000 in
theorem lawW : PySem.Challenge.rw_pd0070_01.Holds := by
  w_on
  refine holds_law said fun hs => ?_
  refine holds_open (q := viewP) (loose := []) (Xt := looked) (XP := XL viewP []) (Yf := hook.obs) (Ya := hook.val) (YP := hook.says) (N := 2474) left hook.of hook.keeps (fun s e => xl_of s (Bool.and_eq_true_iff.mp e).1) XL.keeps (by rfl) (by rfl) (by rfl) (fun s e => recFacts_of (Bool.and_eq_true_iff.mp e).2) (by rfl) (by first | assumption | decide +kernel) (by decide +kernel) ⟨rfl, rfl, rfl, rfl, rfl, by decide +kernel⟩ ?hw ?hc
  case hw => w_witness2
  clear hs
  k_fill
  intro w s₀ s₁ mg mb G Y fa o pm cd doc dV kV ho hd hcd hD hmg hg args vals as hpre hlay hrd hwl hlo
  have KX := kIn_of Y
  refine Ground.open G ?_
  intro T B D TE TW
  refine guard_noD D (by decide +kernel) ?_
  clear D
  obtain ⟨_, _, M⟩ := bmod_of_top T
  have TA := at_of_top T
  obtain ⟨_, _, he, B0⟩ := based_of_top T rfl hmg ho hd
  have he' : cd = _ := he
  subst he'
  clear he hmg
  wrow_args hpre hlay hrd hwl hlo
  w_strict (all_goals (
    first | refine callC_kw (enter_call ?_) | refine enter_call ?_ | refine callC_kw (enter_callW ?_) | refine enter_callW ?_ | w_how
    w_top on
    try refine codeAny_mono ?_ (fun _ _ g => GoodW.toG g)
    have K0 := below_caller (Top.heap T)
    w_call any ho hd hcd hD T F
    clear hd TA
    k_drop
    skip))
  w_strict ((all_goals try k_fold); k_steps)
  with_reducible rename IntsAre _ _ => hI
  with_reducible rename List Value => vs
  with_reducible rename List Int => ns
  with_reducible rename Below _ _ _ _ => K0
  unfold PyProof.Rows.Top.heap at K0
  with_reducible rename PySem.Heap.IsList _ _ _ => hL
  refine drawnW hL hI (by omega) ⟨by k_asm, by k_asm, by k_asm, by k_asm, by k_asm, by first | exact rfl | assumption, by ktr_room, by ktr_units⟩ ?_
  intro D fb fa b0 b1 b2 a0 a1 a2 q md t0 t1 t2 u0 u1 u2 tl th h1 tk1 hb0 hb1 hb2 ha0 ha1 ha2 hq hmd F1 N1
  obtain ⟨low, hlow⟩ : ∃ low, low = 4096 * (1 + q) - (b0 + 16 * b1 + 256 * b2) := ⟨_, rfl⟩
  obtain ⟨high, hhigh⟩ : ∃ high, high = 4096 * (1 + q) + 4096 * md + (a0 + 16 * a1 + 256 * a2) := ⟨_, rfl⟩
  have d : Drawn b0 b1 b2 a0 a1 a2 q md low high := ⟨hb0, hb1, hb2, ha0, ha1, ha2, hq, hmd, hlow, hhigh⟩
  have elow : ((4096 * (1 + q) : Nat) : Int) - ((b0 + 16 * b1 + 256 * b2 : Nat) : Int) = (low : Int) := by omega
  have ehigh : ((4096 * (1 + q) + 4096 * md : Nat) : Int) + ((a0 + 16 * a1 + 256 * a2 : Nat) : Int) = (high : Int) := by omega
  k_steps
  refine countW (x := b0) (y := b1) (z := b2) (tx := t0) (ty := t1) (tz := t2) (n := 0) (by omega) (by omega) (by omega) (.tail _ (.head _)) ⟨by k_asm, by k_asm, by k_asm, by k_asm, by k_asm, by first | exact rfl | assumption, by ktr_room, by ktr_units⟩ ?_
  intro t9 h2 tk2 F2 N2
  k_steps
  rw [elow]
  k_steps
  with_reducible rename News _ _ _ _ => N2'
  simp only [List.cons_append, List.nil_append] at N2'
  refine countW (x := a0) (y := a1) (z := a2) (tx := u0) (ty := u1) (tz := u2) (n := 0) (by omega) (by omega) (by omega) (.tail _ (.tail _ (.head _))) ⟨by k_asm, by k_asm, by k_asm, by k_asm, by k_asm, by first | exact rfl | assumption, by ktr_room, by ktr_units⟩ ?_
  intro t8 h3 tk3 F3 N3
  k_steps
  rw [ehigh]
  k_steps
  have emd : Int.fdiv (((4096 * (1 + q) + 4096 * md : Nat) : Int) - ((4096 * (1 + q) : Nat) : Int)) 4096 = (md : Int) := by
    rw [Int.fdiv_eq_ediv_of_nonneg _ (by decide)]; omega
  refine floordiv_int (by decide) ?_ (.inl (PyProof.noPylong_small (by decide)))
  rw [emd]
  have g1 := d.low_ge
  have g2 := d.le
  have g3 := d.high_le
  have g4 := d.end_eq
  have g5 := d.found
  k_steps
  refine sizesW (fb := fb) (fa := fa) (b0 := b0) (b1 := b1) (b2 := b2) (a0 := a0) (a1 := a1) (a2 := a2) (md := md) (t0 := t0) (t1 := t1) (t2 := t2) (u0 := u0) (u1 := u1) (u2 := u2) (n1 := 0) (n2 := 0) hb0 hb1 hb2 ha0 ha1 ha2 hmd (.tail _ (.head _)) (.tail _ (.tail _ (.head _))) ⟨by k_asm, by k_asm, by k_asm, by k_asm, by k_asm, by first | exact rfl | assumption, by ktr_room, by ktr_units⟩ ?_
  intro S sv sn h4 tk4 hsv F4 N4
  k_steps
  refine foundW (by omega) (by omega) g2 ⟨by k_asm, by k_asm, by k_asm, by k_asm, by k_asm, by first | exact rfl | assumption, by ktr_room, by ktr_units⟩ ?_
  intro Fd ys h5 tk5 hys F5 N5
  rw [g5] at hys
  k_steps
  refine wantedW (ss := sizesN b0 b1 b2 md a0 a1 a2) (sz := S) (vs := sv) (n := sn) (fun x hx => blk_sizes hx) (by omega) (by rw [len_sizes]; omega) hsv (.tail _ (.head _)) ⟨by k_asm, by k_asm, by k_asm, by k_asm, by k_asm, by first | exact rfl | assumption, by ktr_room, by ktr_units⟩ ?_
  intro W wv h6 tk6 hwv F6 N6
  k_steps
  refine neSame (a := Fd) (b := W) (vs := ys) (ws := wv) (bs := (wantedN low (sizesN b0 b1 b2 md a0 a1 a2)).map pathL) (by ktr_units) N6 (.tail _ (.head _)) (.head _) hys hwv ?_
  have N6' := led_a N6
  clear N6
  k_steps
  have hwl : (wantedN low (sizesN b0 b1 b2 md a0 a1 a2)).length = b0 + b1 + b2 + md + a2 + a1 + a0 + 1 := by rw [wantedN_len, len_sizes]
  have hyl : ys.length ≤ 20 := by rw [hys.length, List.length_map, hwl]; omega
  have hfig := d.fig
  have hmeet := d.meet
  have hmet := fun n (hn : n < 1048576) => d.met hn
  generalize hWN : wantedN low (sizesN b0 b1 b2 md a0 a1 a2) = WN at *
  refine kms_slice_lit (zs := ys.drop 1) (s := ⟨_, _, _, _, _⟩) F6 N6' (News.isList (items := ys.toArray) (n := ys.length) N6' (.head _)) (by constructor) (by constructor) cut_from ?_ (by with_unfolding_all rfl) (fun _ => by with_unfolding_all rfl) (by rw [sizeLine_eq, List.size_toArray]; omega)
  intro D1 h7 F7 N7 _
  k_steps
  refine kms_slice_lit (zs := ys.take 1) (s := ⟨_, _, _, _, _⟩) F7 N7 (News.isList (items := ys.toArray) (n := ys.length) N7 (.tail _ (.head _))) (by constructor) (by constructor) cut_to ?_ (by with_unfolding_all rfl) (fun _ => by with_unfolding_all rfl) (by rw [sizeLine_eq, List.size_toArray]; omega)
  intro D2 h8 F8 N8 _
  k_steps
  refine addCat (vs := ys.drop 1) (ws := ys.take 1) (i := 0) (j := 0) F8 N8 (.tail _ (.head _)) (.head _) (by rw [List.length_drop, List.length_take]; omega) ?_
  intro D3 h9 F9 N9 _
  k_steps
  refine cpath (pss := WN.drop 1 ++ WN.take 1) (vs := ys.drop 1 ++ ys.take 1) (lp := D3) (n0 := 0) (rot_bare hys) (fun ds hds => hfig ds (rot_mem.mp hds)) (rot_ne (by omega)) (by rw [List.length_append, List.length_drop, List.length_take]; omega) (.head _) ⟨by k_asm, by k_asm, by k_asm, by k_asm, by k_asm, by first | exact rfl | assumption, by ktr_room, by ktr_units⟩ ?_
  intro p r tf h10 tk10 hp hr hq1 hq2 F10 N10
  rw [hmeet.2.2 p r (rot_mem.mp hp) (rot_mem.mp hr) (fun x hx => hq1 x (rot_mem.mpr hx)) (fun x hx => hq2 x (rot_mem.mpr hx))]
  k_steps
  rw [show 1048576 + (low : Int) = ((1048576 + low : Nat) : Int) by omega, show 1048576 + (high : Int) = ((1048576 + high : Nat) : Int) by omega]
  refine meetW ⟨by k_asm, by k_asm, by k_asm, by k_asm, by k_asm, by first | exact rfl | assumption, by ktr_room, by ktr_units⟩ ?_
  intro tm h11 tk11 F11 N11
  k_steps
  refine place (ds := figN (meetN (1048576 + low) (1048576 + high))) (by rw [Int.natAbs_neg, Int.natAbs_natCast]; exact hmeet.2.1) (by rw [Int.natAbs_neg, Int.natAbs_natCast]; exact hmeet.1) ⟨by k_asm, by k_asm, by k_asm, by k_asm, by k_asm, by first | exact rfl | assumption, by ktr_room, by ktr_units⟩ ?_
  intro tp h12 tk12 F12 N12
  k_steps
  refine ne_bytes ?_
  rw [bne_self_eq_false]
  k_steps
  refine floordiv_int (by decide) ?_ (.inl (PyProof.noPylong_small (by decide)))
  rw [show Int.fdiv ((low : Int) + (high : Int)) 2 = (((low + high) / 2 : Nat) : Int) by rw [Int.fdiv_eq_ediv_of_nonneg _ (by decide)]; omega]
  k_steps
  with_reducible rename News _ _ _ _ => N12'
  have N12b := led_b N12'
  clear N12'
  k_dflt (refine LCg.ListComp_U (F₀ := by k_asm) (by with_unfolding_all rfl) (by decide) (by rfl) (by decide) (by rfl) ?_)
  k_steps
  with_reducible rename Fr _ _ _ _ => F13
  with_reducible rename News _ _ _ _ => N13
  refine kms_slice_lit (zs := vs.take 3) (s := ⟨_, _, _, _, _⟩) F13 N13 (hL.at fun o e => F13.keep _ _ e) (by constructor) (by constructor) cut_3 ?_ (by with_unfolding_all rfl) (fun _ => by with_unfolding_all rfl) (by rw [sizeLine_eq, List.size_toArray, ints_len hI]; omega)
  intro D4 h14 F14 N14 _
  k_steps
  have hI3 := hI.take 3
  refine LCg.CompSrc.ledger (its := (vs.take 3).toArray) (k := 0) (by rfl) F14 N14 (.head _) (by rw [sizeLine_eq, List.size_toArray, List.length_take]; omega)
    (fun g => comp_keep (fun i ys => ∃ qs : List Nat, IntsAre ys (qs.map Int.ofNat) ∧ (∀ x ∈ qs, x < 1048576) ∧ qs.length ≤ i) ?turn ⟨[], .nil, (fun _ h => nomatch h), Nat.zero_le _⟩ ?fin)
  case turn =>
    intro i zs v I oI C oC D5 m₂ h tk E' hi hJ hP hC hx F5 N5' hoff hne
    have hz : (vs.take 3)[i]? = some v := by simpa using hP
    have hy := IntsAre.at hI3 i v hz
    obtain ⟨k0, kt, hv0, _⟩ := hy
    clear hz
    subst hv0
    have hlo : 3550 ≤ low ∧ low ≤ 827938 := ⟨g1, by omega⟩
    clear hlow hhigh elow ehigh emd g1 g2 g3 g4 g5 hb0 hb1 hb2 ha0 ha1 ha2 hq hmd hfig hmeet hmet hys hwv hsv hwl hyl hI3 hP
    clear d
    iterate 8 walk1
    refine PyProof.Rows.mod_int' (by decide) ?_
    (try dsimp only)
    walk1
    have e3 : (low : Int) - 300 + Int.fmod k0 2000 = ((low - 300 + (k0 % 2000).toNat : Nat) : Int) := by
      rw [Int.fmod_eq_emod_of_nonneg _ (by decide)]; omega
    have e4 : low - 300 + (k0 % 2000).toNat < 1048576 := by omega
    rw [e3]
    with_reducible rename Fr _ _ _ _ => F6
    with_reducible rename News _ _ _ _ => N6'
    obtain ⟨qs, hq1, hq2, hq3⟩ := hJ
    refine LCg.CompEnd.intro F6 N6' _ (fun p hp => hp) hoff (.inr ⟨_, .head _, rfl, _, rfl⟩) ⟨rfl, qs ++ [low - 300 + (k0 % 2000).toNat], ?_, (fun x hx => ?_), by rw [List.length_append, List.length_singleton]; omega⟩
    · rw [List.map_append]
      exact ints_snoc hq1
    · rcases List.mem_append.mp hx with hx | hx
      · exact hq2 x hx
      · rw [List.mem_singleton.mp hx]; exact e4
  case fin =>
    intro zs hJ D5 h15 tk15 F15 N15 o15
    obtain ⟨qs, hq1, hq2, hq3⟩ := hJ
    have hzl : zs.length ≤ 3 := by
      rw [List.size_toArray, List.length_take] at hq3
      rw [ints_len hq1, List.length_map]
      omega
    refine addNums (y1 := low - 1) (y2 := low) (y3 := (low + high) / 2) (y4 := high) (y5 := high + 1) (zs := zs) (qs := qs) (by omega) rfl rfl rfl (by omega) F15 N15 (.tail _ (.tail _ (.head _))) (.head _) hzl hq1 ?_
    intro D6 nv h16 hnv F16 N16
    k_steps
    have hall : ∀ x ∈ [low - 1, low, (low + high) / 2, high, high + 1] ++ qs, x < 1048576 := fun x hx => by
      rcases List.mem_append.mp hx with hx | hx
      · simp only [List.mem_cons, List.not_mem_nil, or_false] at hx
        omega
      · exact hq2 x hx
    with_reducible rename News _ _ _ _ => N17
    refine membersW (na := D6) (n1 := 0) (pss := WN) (fvs := ys) (n := ys.length) (fun x hx => ⟨hall x hx, hmet x (hall x hx)⟩) hnv (.head _) (fun x hx => (hfig x hx).1) hys (.tail _ (.tail _ (.tail _ (.tail _ (.head _))))) ⟨by k_asm, by k_asm, by k_asm, by k_asm, by k_asm, by first | exact rfl | assumption, by ktr_room, by ktr_units⟩ ?_
    intro h18 tk18 F18 N18
    clear hall hnv N17 hys hwv hmet hfig hmeet g1 g2 g3 g4 g5 emd elow ehigh d hq1 hq2 hq3 hzl hI3
    k_unfold
    (try dsimp only)
    exact law_end (by omega) F18 (by assumption) rfl
end
end Mine
end
set_option maxRecDepth 100000 in
set_option maxHeartbeats 8000000 in
theorem PySem.Challenge.cw_pd0070_01_holds : PySem.Challenge.rw_pd0070_01.Holds := by
  exact Mine.lawW
