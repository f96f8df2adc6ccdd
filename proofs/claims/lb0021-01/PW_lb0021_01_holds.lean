import PyProof.Rows.All
import KE.BitLaws
import Wide.All
import OpenK.AllK
import Wide.FinOn
import KE.KBytesWalk
import KE.BytesMake
import Lean
import PySem.Challenge.RW_lb0021_01
set_option linter.unusedVariables false
namespace Mine
open PySem PySem.W

theorem xor_and_or (a : Nat) : ∀ b : Nat, (a ^^^ b) + (a &&& b) = a ||| b := by
  induction a using Nat.strongRecOn with
  | ind a ih =>
    intro b
    by_cases ha : a = 0
    · subst ha; simp
    · have h := ih (a / 2) (by omega) (b / 2)
      have e1 := Nat.div_add_mod (a ^^^ b) 2
      have e2 := Nat.div_add_mod (a &&& b) 2
      have e3 := Nat.div_add_mod (a ||| b) 2
      rw [Nat.xor_div_two] at e1
      rw [Nat.and_div_two] at e2
      rw [Nat.or_div_two] at e3
      have m1 : (a ^^^ b) % 2 = (a % 2 + b % 2) % 2 := by
        have h1 : (a ^^^ b) % 2 = (a % 2) ^^^ (b % 2) := by
          have := Nat.xor_mod_two_pow (a := a) (b := b) (n := 1)
          simpa using this
        rw [h1]
        rcases Nat.mod_two_eq_zero_or_one a with x | x <;> rcases Nat.mod_two_eq_zero_or_one b with y | y <;> rw [x, y] <;> decide
      have m2 : (a &&& b) % 2 = (a % 2) * (b % 2) := by
        have h1 : (a &&& b) % 2 = (a % 2) &&& (b % 2) := by
          have := Nat.and_mod_two_pow (a := a) (b := b) (n := 1)
          simpa using this
        rw [h1]
        rcases Nat.mod_two_eq_zero_or_one a with x | x <;> rcases Nat.mod_two_eq_zero_or_one b with y | y <;> rw [x, y] <;> decide
      have m3 : (a ||| b) % 2 = a % 2 + b % 2 - (a % 2) * (b % 2) := by
        have h1 : (a ||| b) % 2 = (a % 2) ||| (b % 2) := by
          have := Nat.or_mod_two_pow (a := a) (b := b) (n := 1)
          simpa using this
        rw [h1]
        rcases Nat.mod_two_eq_zero_or_one a with x | x <;> rcases Nat.mod_two_eq_zero_or_one b with y | y <;> rw [x, y] <;> decide
      rcases Nat.mod_two_eq_zero_or_one a with x | x <;> rcases Nat.mod_two_eq_zero_or_one b with y | y <;> rw [x, y] at m1 m2 m3 <;> omega

theorem bitNot_nn (a : Nat) : ¬ (0 : Int) ≤ Builtin.bitNot (a : Int) := by
  unfold Builtin.bitNot; omega
theorem and_nat (a b : Nat) : Builtin.bitAnd (a : Int) (b : Int) = ((a &&& b : Nat) : Int) := by
  rw [PyProof.Rows.bitAnd_pp (by omega) (by omega)]; simp
theorem or_nat (a b : Nat) : Builtin.bitOr (a : Int) (b : Int) = ((a ||| b : Nat) : Int) := by
  unfold Builtin.bitOr
  rw [PyProof.Rows.bitAnd_nn (bitNot_nn a) (bitNot_nn b)]
  have h : ∀ x : Int, Builtin.bitNot (Builtin.bitNot x) = x := fun x => by unfold Builtin.bitNot; omega
  rw [h, h, h]; simp
theorem xor_nat (a b : Nat) : Builtin.bitXor (a : Int) (b : Int) = ((a ^^^ b : Nat) : Int) := by
  unfold Builtin.bitXor
  rw [or_nat, and_nat]
  have := xor_and_or a b
  omega
theorem fdiv_nat (a b : Nat) : (a : Int).fdiv (b : Int) = ((a / b : Nat) : Int) := by
  rw [Int.fdiv_eq_ediv_of_nonneg _ (by omega)]; simp
theorem fmod_nat (a b : Nat) : (a : Int).fmod (b : Int) = ((a % b : Nat) : Int) := by
  rw [Int.fmod_eq_emod_of_nonneg _ (by omega)]; simp
end Mine
set_option linter.unusedVariables false
namespace Mine
open PySem PySem.W

/-- one doubling in every lane -/
def xt (o r : Nat) : Nat := ((r ^^^ ((r / 128) &&& o) * 128) * 2) ^^^ (((r / 128) &&& o) * 27)
def timesA (s told row o : Nat) : Nat := if h : s = 0 then told else timesA (s / 2) (if s % 2 = 1 then told ^^^ row else told) (xt o row) o
termination_by s
decreasing_by omega
def times (s row o : Nat) : Nat := timesA s 0 row o

theorem top_le (o r : Nat) : ((r / 128) &&& o) * 128 ≤ r := by
  have : (r / 128) &&& o ≤ r / 128 := Nat.and_le_left
  omega
theorem xt_lt {o r k : Nat} (h : r < 2 ^ k) : xt o r < 2 ^ (k + 1) := by
  have h1 := top_le o r
  have h2 : (r ^^^ ((r / 128) &&& o) * 128) < 2 ^ k := Nat.xor_lt_two_pow h (by omega)
  have e : 2 ^ (k + 1) = 2 * 2 ^ k := by rw [Nat.pow_succ, Nat.mul_comm]
  exact Nat.xor_lt_two_pow (by omega) (by omega)
theorem bits_nat {n k : Nat} (h : n < 2 ^ k) : Builtin.Int.intBits (n : Int) ≤ k := by
  unfold Builtin.Int.intBits
  split
  · omega
  · rename_i h0
    have : n ≠ 0 := by simpa using h0
    have := (Nat.log2_lt this).mpr h
    simp only [Int.natAbs_natCast]
    omega
theorem log2_nat {n k : Nat} (hk : 0 < k) (h : n < 2 ^ k) : ((n : Int)).natAbs.log2 < k := by
  by_cases h0 : n = 0
  · subst h0; simpa using hk
  · simpa using (Nat.log2_lt h0).mpr h
end Mine
set_option linter.unusedVariables false
namespace Mine

/-- times three, in the field of 256 -/
def by3 (a : Nat) : Nat := xt 1 a ^^^ a
def powers : Nat → Nat → List Nat
  | 0, _ => []
  | n + 1, a => a :: powers n (by3 a)
def EXPL : List Nat := powers 255 1
def LOGL : List Nat := (List.range 256).map fun v => EXPL.idxOf v % 255
theorem EXPL_len : EXPL.length = 255 := by decide +kernel
theorem LOGL_len : LOGL.length = 256 := by decide +kernel
theorem EXPL_lt : ∀ v ∈ EXPL, v < 256 := by decide +kernel
theorem LOGL_lt : ∀ v ∈ LOGL, v < 255 := by decide +kernel
def EXPN (i : Nat) : Nat := EXPL.getD i 0
def LOGN (v : Nat) : Nat := LOGL.getD v 0
theorem EXPN_lt (i : Nat) : EXPN i < 256 := by
  unfold EXPN
  rw [List.getD_eq_getElem?_getD]
  cases h : EXPL[i]? with
  | none => decide
  | some v => exact EXPL_lt v (List.mem_of_getElem? h)
theorem LOGN_lt (i : Nat) : LOGN i < 255 := by
  unfold LOGN
  rw [List.getD_eq_getElem?_getD]
  cases h : LOGL[i]? with
  | none => decide
  | some v => exact LOGL_lt v (List.mem_of_getElem? h)
def EXPB : Array UInt8 := (EXPL.map Nat.toUInt8).toArray
def LOGB : Array UInt8 := (LOGL.map Nat.toUInt8).toArray
end Mine
set_option maxRecDepth 100000
set_option Elab.async false
set_option linter.unusedVariables false
namespace Mine
open PySem PySem.W PySem.Spec PyProof.Rows PySem.Calls

/-- the i-th statement of the text -/
noncomputable def stm (i : Nat) : Stmt := match PySem.Challenge.pw_lb0021_01.main.body[i]? with
  | some s => s
  | none => default
/-- the i-th statement of a class -/
noncomputable def inC (s : Stmt) (i : Nat) : Stmt := match s with
  | .ClassDef _ _ _ body _ _ _ _ _ _ _ => (match body[i]? with | some t => t | none => default)
  | _ => default
noncomputable def fB (s : Stmt) : FuncBody := match s with
  | .FunctionDef _ _ body _ _ _ _ _ _ _ => .stmts body
  | _ => default
noncomputable def fA (s : Stmt) : Arguments := match s with
  | .FunctionDef _ args _ _ _ _ _ _ _ _ => args
  | _ => default
noncomputable def fS (s : Stmt) : Scope := match s with
  | .FunctionDef _ _ _ _ _ _ scope _ _ _ => scope
  | _ => default
/-- what is said of a noncomputable def or a class at its head -/
noncomputable def dcS (s : Stmt) : Str := match s with
  | .FunctionDef _ _ (.Expr (.Constant (.str x) _ _) _ :: _) _ _ _ _ _ _ _ => x
  | .ClassDef _ _ _ (.Expr (.Constant (.str x) _ _) _ :: _) _ _ _ _ _ _ _ => x
  | _ => default
/-- the second argument of a call that is assigned -/
noncomputable def alS (s : Stmt) : Str := match s with
  | .Assign _ (.Call _ (_ :: .Constant (.str x) _ _ :: _) _ _) _ => x
  | _ => default
noncomputable def kv (P : Params) (x : Str) (t : Nat) (v : Value) : DictEntry := { hash := PyData.keyHash P x, key := .str x t, val := v }
noncomputable def fnO (name qual : Str) (s : Stmt) (mod : Str) (mt : Nat) (code : Addr) (dflt doc : Value) : Obj :=
  { cls := .type "function", data := .func { name, qualname := qual, params := fA s, body := fB s, scope := fS s, globals := 3, closure := [], defaults := dflt, kwdefaults := .none, doc, pyModule := .str mod mt, code := .ref code } }
/-- the objects that stand when the text has run, as far as they are met here -/
noncomputable def K0 (P : Params) : Frag := [
  (2, ({ cls := Value.none, data := Data.dict #[kv P (Str.ofString "type.__subclasses__.Exception.0") 212 (Value.int 31 0), kv P (Str.ofString "type.__subclasses__.Exception.n") 213 (Value.int 1 0)] 2 } : Obj)),
  (3, ({ cls := Value.type "dict", data := Data.dict #[kv P (Str.ofString "__name__") 165 (Value.str (Str.ofString "law_lb0021_01") 410), kv P (Str.ofString "__doc__") 166 (Value.none), kv P (Str.ofString "__package__") 167 (Value.none), kv P (Str.ofString "__loader__") 168 (Value.builtin "__main__.__loader__#opaque"), kv P (Str.ofString "__spec__") 169 (Value.none), kv P (Str.ofString "__annotations__") 170 (Value.ref 6), kv P (Str.ofString "__builtins__") 171 (Value.ref 4), kv P (Str.ofString "__file__") 173 (Value.str (Str.ofString "/claim/cut.py") 172), kv P (Str.ofString "__cached__") 174 (Value.none), kv P (Str.ofString "_wall") 193 (Value.ref 21), kv P (Str.ofString "MnemonicError") 215 (Value.ref 31), kv P (Str.ofString "_tuplegetter") 274 (Value.ref 73), kv P (Str.ofString "RawShare") 389 (Value.ref 145), kv P (Str.ofString "EXP_TABLE") 391 (Value.bytes EXPB 390), kv P (Str.ofString "LOG_TABLE") 393 (Value.bytes LOGB 392), kv P (Str.ofString "_interpolate") 409 (Value.ref 155), kv P (Str.ofString "_law_mix") 413 (Value.int 222746560949354276391051289458670502401 412), kv P (Str.ofString "_law_number") 421 (Value.ref 162), kv P (Str.ofString "_law_row") 430 (Value.ref 169), kv P (Str.ofString "_law_times") 441 (Value.ref 176), kv P (Str.ofString "_law_at") 452 (Value.ref 183), kv P (Str.ofString "_law_same") 460 (Value.ref 190), kv P (Str.ofString "_law_refused") 469 (Value.ref 197), kv P (Str.ofString "law") 475 (Value.ref 202)] 24 } : Obj)),
  (30, ({ cls := Value.type "dict", data := Data.dict #[kv P (Str.ofString "__module__") 203 (Value.str (Str.ofString "shamir_mnemonic.utils") 194), kv P (Str.ofString "__firstlineno__") 207 (Value.int 5 206), kv P (Str.ofString "__static_attributes__") 208 (Value.ref 29), kv P (Str.ofString "__weakref__") 210 (Value.ref 32), kv P (Str.ofString "__doc__") 211 (Value.none)] 3 } : Obj)),
  (31, ({ cls := Value.type "type", data := Data.cls { name := Str.ofString "MnemonicError", bases := [Value.type "Exception"], mro := [Value.ref 31, Value.type "Exception", Value.type "BaseException", Value.type "object"], ns := 30, qualname := Str.ofString "MnemonicError" }, slots := #[some (Value.ref 22), none, some (Value.str (Str.ofString "MnemonicError") 196), some (Value.str (Str.ofString "MnemonicError") 204), some (Value.builtin "Exception.__new__"), some (Value.bool true)] } : Obj)),
  (49, ({ cls := Value.type "tuple", data := Data.seq #[Value.none] } : Obj)),
  (55, ({ cls := Value.type "code", data := Data.fields #[Value.str (Str.ofString "__get__") 239, Value.str (Str.ofString "_tuplegetter.__get__") 240, Value.str (Str.ofString "/claim/cut.py") 241, Value.int 14 0, Value.int 3 0, Value.int 0 0, Value.int 0 0, Value.int 3 0, Value.ref 50, Value.bool true, Value.int 181 0, Value.ref 51, Value.none, Value.ref 52, Value.ref 53, Value.ref 54, Value.int 245 0, Value.int 14 0, Value.str (Str.ofString "/claim/cut.py") 246] } : Obj)),
  (56, fnO (Str.ofString "__get__") (Str.ofString "_tuplegetter.__get__") (inC (stm 4) 1) (Str.ofString "shamir_mnemonic.shamir") 216 55 (.ref 49) .none),
  (72, ({ cls := Value.type "dict", data := Data.dict #[kv P (Str.ofString "__module__") 225 (Value.str (Str.ofString "shamir_mnemonic.shamir") 216), kv P (Str.ofString "__firstlineno__") 229 (Value.int 8 228), kv P (Str.ofString "__init__") 238 (Value.ref 48), kv P (Str.ofString "__get__") 247 (Value.ref 56), kv P (Str.ofString "__set__") 256 (Value.ref 63), kv P (Str.ofString "__delete__") 264 (Value.ref 70), kv P (Str.ofString "__static_attributes__") 267 (Value.ref 71), kv P (Str.ofString "__dict__") 269 (Value.ref 74), kv P (Str.ofString "__weakref__") 271 (Value.ref 75), kv P (Str.ofString "__doc__") 272 (Value.none)] 4 } : Obj)),
  (73, ({ cls := Value.type "type", data := Data.cls { name := Str.ofString "_tuplegetter", bases := [Value.type "object"], mro := [Value.ref 73, Value.type "object"], ns := 72, qualname := Str.ofString "_tuplegetter" }, slots := #[none, none, some (Value.str (Str.ofString "_tuplegetter") 218), some (Value.str (Str.ofString "_tuplegetter") 226), some (Value.builtin "object.__new__"), some (Value.bool true)] } : Obj)),
  (94, ({ cls := Value.type "code", data := Data.fields #[Value.str (Str.ofString "__new__") 295, Value.str (Str.ofString "RawShare.__new__") 296, Value.str (Str.ofString "/claim/cut.py") 297, Value.int 32 0, Value.int 3 0, Value.int 0 0, Value.int 0 0, Value.int 3 0, Value.ref 89, Value.bool true, Value.int 181 0, Value.ref 90, Value.none, Value.ref 91, Value.ref 92, Value.ref 93, Value.int 301 0, Value.int 32 0, Value.str (Str.ofString "/claim/cut.py") 302] } : Obj)),
  (95, fnO (Str.ofString "__new__") (Str.ofString "RawShare.__new__") (inC (stm 5) 4) (Str.ofString "shamir_mnemonic.shamir") 216 94 .none (.str (dcS (inC (stm 5) 4)) 303)),
  (136, ({ cls := Value.type "dict", data := Data.dict #[kv P (Str.ofString "index") 371 (Value.int 0 365), kv P (Str.ofString "__doc__") 373 (Value.str (alS (inC (stm 5) 12)) 366)] 2 } : Obj)),
  (137, ({ cls := Value.ref 73, dict := some 136 } : Obj)),
  (139, ({ cls := Value.type "dict", data := Data.dict #[kv P (Str.ofString "index") 381 (Value.int 1 375), kv P (Str.ofString "__doc__") 383 (Value.str (alS (inC (stm 5) 13)) 376)] 2 } : Obj)),
  (140, ({ cls := Value.ref 73, dict := some 139 } : Obj)),
  (144, ({ cls := Value.type "dict", data := Data.dict #[kv P (Str.ofString "__module__") 282 (Value.str (Str.ofString "shamir_mnemonic.shamir") 216), kv P (Str.ofString "__firstlineno__") 286 (Value.int 26 285), kv P (Str.ofString "__doc__") 288 (Value.str (dcS (stm 5)) 287), kv P (Str.ofString "__slots__") 290 (Value.ref 86), kv P (Str.ofString "_fields") 293 (Value.ref 87), kv P (Str.ofString "_field_defaults") 294 (Value.ref 88), kv P (Str.ofString "__new__") 304 (Value.ref 146), kv P (Str.ofString "_make") 326 (Value.ref 104), kv P (Str.ofString "_replace") 337 (Value.ref 113), kv P (Str.ofString "__replace__") 338 (Value.ref 113), kv P (Str.ofString "__repr__") 346 (Value.ref 120), kv P (Str.ofString "_asdict") 353 (Value.ref 127), kv P (Str.ofString "__getnewargs__") 361 (Value.ref 134), kv P (Str.ofString "__match_args__") 364 (Value.ref 135), kv P (Str.ofString "x") 374 (Value.ref 137), kv P (Str.ofString "data") 384 (Value.ref 140), kv P (Str.ofString "__static_attributes__") 385 (Value.ref 142)] 2 } : Obj)),
  (145, ({ cls := Value.type "type", data := Data.cls { name := Str.ofString "RawShare", bases := [Value.type "tuple"], mro := [Value.ref 145, Value.type "tuple", Value.type "object"], ns := 144, qualname := Str.ofString "RawShare", hasDict := false }, slots := #[some (Value.ref 78), none, some (Value.str (Str.ofString "RawShare") 275), some (Value.str (Str.ofString "RawShare") 283), some Value.none, some (Value.bool false)] } : Obj)),
  (146, ({ cls := Value.type "staticmethod", data := Data.fields #[Value.ref 95] } : Obj)),
  (154, ({ cls := Value.type "code", data := Data.fields #[Value.str (Str.ofString "_interpolate") 394, Value.str (Str.ofString "_interpolate") 395, Value.str (Str.ofString "/claim/cut.py") 396, Value.int 70 0, Value.int 2 0, Value.int 0 0, Value.int 0 0, Value.int 3 0, Value.ref 149, Value.bool true, Value.int 181 0, Value.ref 150, Value.none, Value.ref 151, Value.ref 152, Value.ref 153, Value.int 406 0, Value.int 70 0, Value.str (Str.ofString "/claim/cut.py") 407] } : Obj)),
  (155, fnO (Str.ofString "_interpolate") (Str.ofString "_interpolate") (stm 8) (Str.ofString "shamir_mnemonic.shamir") 216 154 .none (.str (dcS (stm 8)) 408)),
  (161, ({ cls := Value.type "code", data := Data.fields #[Value.str (Str.ofString "_law_number") 414, Value.str (Str.ofString "_law_number") 415, Value.str (Str.ofString "/claim/cut.py") 416, Value.int 98 0, Value.int 2 0, Value.int 0 0, Value.int 0 0, Value.int 3 0, Value.ref 156, Value.bool true, Value.int 181 0, Value.ref 157, Value.none, Value.ref 158, Value.ref 159, Value.ref 160, Value.int 419 0, Value.int 98 0, Value.str (Str.ofString "/claim/cut.py") 420] } : Obj)),
  (162, fnO (Str.ofString "_law_number") (Str.ofString "_law_number") (stm 11) (Str.ofString "law_lb0021_01") 410 161 .none .none),
  (168, ({ cls := Value.type "code", data := Data.fields #[Value.str (Str.ofString "_law_row") 422, Value.str (Str.ofString "_law_row") 423, Value.str (Str.ofString "/claim/cut.py") 424, Value.int 100 0, Value.int 3 0, Value.int 0 0, Value.int 0 0, Value.int 3 0, Value.ref 163, Value.bool true, Value.int 181 0, Value.ref 164, Value.none, Value.ref 165, Value.ref 166, Value.ref 167, Value.int 428 0, Value.int 100 0, Value.str (Str.ofString "/claim/cut.py") 429] } : Obj)),
  (169, fnO (Str.ofString "_law_row") (Str.ofString "_law_row") (stm 12) (Str.ofString "law_lb0021_01") 410 168 .none .none),
  (175, ({ cls := Value.type "code", data := Data.fields #[Value.str (Str.ofString "_law_times") 431, Value.str (Str.ofString "_law_times") 432, Value.str (Str.ofString "/claim/cut.py") 433, Value.int 102 0, Value.int 3 0, Value.int 0 0, Value.int 0 0, Value.int 3 0, Value.ref 170, Value.bool true, Value.int 181 0, Value.ref 171, Value.none, Value.ref 172, Value.ref 173, Value.ref 174, Value.int 439 0, Value.int 102 0, Value.str (Str.ofString "/claim/cut.py") 440] } : Obj)),
  (176, fnO (Str.ofString "_law_times") (Str.ofString "_law_times") (stm 13) (Str.ofString "law_lb0021_01") 410 175 .none .none),
  (182, ({ cls := Value.type "code", data := Data.fields #[Value.str (Str.ofString "_law_at") 442, Value.str (Str.ofString "_law_at") 443, Value.str (Str.ofString "/claim/cut.py") 444, Value.int 111 0, Value.int 3 0, Value.int 0 0, Value.int 0 0, Value.int 3 0, Value.ref 177, Value.bool true, Value.int 181 0, Value.ref 178, Value.none, Value.ref 179, Value.ref 180, Value.ref 181, Value.int 450 0, Value.int 111 0, Value.str (Str.ofString "/claim/cut.py") 451] } : Obj)),
  (183, fnO (Str.ofString "_law_at") (Str.ofString "_law_at") (stm 14) (Str.ofString "law_lb0021_01") 410 182 .none .none),
  (189, ({ cls := Value.type "code", data := Data.fields #[Value.str (Str.ofString "_law_same") 453, Value.str (Str.ofString "_law_same") 454, Value.str (Str.ofString "/claim/cut.py") 455, Value.int 116 0, Value.int 2 0, Value.int 0 0, Value.int 0 0, Value.int 3 0, Value.ref 184, Value.bool true, Value.int 181 0, Value.ref 185, Value.none, Value.ref 186, Value.ref 187, Value.ref 188, Value.int 458 0, Value.int 116 0, Value.str (Str.ofString "/claim/cut.py") 459] } : Obj)),
  (190, fnO (Str.ofString "_law_same") (Str.ofString "_law_same") (stm 15) (Str.ofString "law_lb0021_01") 410 189 .none .none),
  (196, ({ cls := Value.type "code", data := Data.fields #[Value.str (Str.ofString "_law_refused") 461, Value.str (Str.ofString "_law_refused") 462, Value.str (Str.ofString "/claim/cut.py") 463, Value.int 118 0, Value.int 2 0, Value.int 0 0, Value.int 0 0, Value.int 3 0, Value.ref 191, Value.bool true, Value.int 181 0, Value.ref 192, Value.none, Value.ref 193, Value.ref 194, Value.ref 195, Value.int 467 0, Value.int 118 0, Value.str (Str.ofString "/claim/cut.py") 468] } : Obj)),
  (197, fnO (Str.ofString "_law_refused") (Str.ofString "_law_refused") (stm 16) (Str.ofString "law_lb0021_01") 410 196 .none .none),
  (201, ({ cls := Value.type "code", data := Data.fields #[Value.str (Str.ofString "law") 470, Value.str (Str.ofString "law") 471, Value.str (Str.ofString "/claim/cut.py") 472, Value.int 125 0, Value.int 1 0, Value.int 0 0, Value.int 0 0, Value.int 3 0, Value.ref 198, Value.bool true, Value.int 181 0, Value.ref 199, Value.none, Value.none, Value.none, Value.ref 200, Value.int 473 0, Value.int 125 0, Value.str (Str.ofString "/claim/cut.py") 474] } : Obj)),
  (202, fnO (Str.ofString "law") (Str.ofString "law") (stm 17) (Str.ofString "law_lb0021_01") 410 201 .none .none)]
noncomputable def asK : List Addr := [2, 3, 30, 31, 49, 55, 56, 72, 73, 94, 95, 136, 137, 139, 140, 144, 145, 146, 154, 155, 161, 162, 168, 169, 175, 176, 182, 183, 189, 190, 196, 197, 201, 202]
theorem asK_ok (P : Params) : asK = (K0 P).map (·.1) := rfl
noncomputable def vw : Program := view PySem.Challenge.pw_lb0021_01 [0, 2, 4, 5, 6, 7, 8, 10, 11, 12, 13, 14, 15, 16, 17]
end Mine
set_option maxRecDepth 100000
set_option maxHeartbeats 8000000
set_option Elab.async false
namespace Mine
open PySem PySem.W PySem.Spec PyProof.Rows PySem.Calls
/-- the top's run from the start that all plain texts share: the library's quick twins of the run, of the table and of the looks do the work -/
theorem top0 : ∀ (w : World) (os : OsState), (topFrom treeTable PySem.Challenge.pw_lb0021_01 w 3632 ⟨boot_heap w.params, Array.mk [], boot_drawn, boot_toks, os⟩).map (fun s =>
    (openSeen vw [Str.ofString "_tuplegetter", Str.ofString "RawShare"] (importedModules PySem.Challenge.pw_lb0021_01.main.body) (fun s => xlAt vw [] s && recOk (RowW.records PySem.Challenge.rw_lb0021_01.row.toRowW) s) true s, Hook.obs (kHook K0 asK asK_ok) s)) =
    some (openGood vw [Str.ofString "_tuplegetter", Str.ofString "RawShare"], Hook.val (kHook K0 asK asK_ok) w) := by
  intro w os
  unfold topFrom
  rw [PySem.W.Fast.te14082659384304107361, PySem.W.Fast.te14364793385576792824, PySem.W.Fast.te4187177175401517315]
  kernel_rfl
theorem opening0 : opening PySem.Challenge.pw_lb0021_01 = plainProg PySem.Challenge.pw_lb0021_01.main.scope.names := by kernel_rfl
theorem fence0 : ∀ s, fenceModules? PySem.Challenge.pw_lb0021_01 s = some s := fun s => by kernel_rfl
theorem left0 : LeftO PySem.Challenge.rw_lb0021_01.row.toRowW.prog vw [Str.ofString "_tuplegetter", Str.ofString "RawShare"] (fun s => xlAt vw [] s && recOk (RowW.records PySem.Challenge.rw_lb0021_01.row.toRowW) s) (Hook.obs (kHook K0 asK asK_ok)) (Hook.val (kHook K0 asK asK_ok)) 3632 := by
  intro w
  obtain ⟨s, e1, e2⟩ := Option.map_eq_some_iff.mp (boot_open (N := 3632) opening0 rfl fence0 w)
  have e3 : s = ⟨boot_heap w.params, Array.mk [], boot_drawn, boot_toks, s.os⟩ := by
    obtain ⟨h, g, d, t, os⟩ := s
    cases e2
    rfl
  show ((fencedOpening treeTable PySem.Challenge.pw_lb0021_01 w 3632).bind (topFrom treeTable PySem.Challenge.pw_lb0021_01 w 3632)).map _ = _
  rw [e1, Option.bind_some, e3]
  exact top0 w s.os
end Mine
set_option maxRecDepth 100000
set_option Elab.async false
set_option linter.unusedVariables false
namespace Mine
open PySem PySem.W PySem.Spec PyProof.Rows PySem.Calls

noncomputable abbrev KK (w : World) : Frag := K0 w.params
abbrev PR : Program := PySem.Challenge.rw_lb0021_01.prog

theorem ne150 {a : Nat} (h : 203 ≤ a) : a ≠ 150 := by omega
theorem ne150' {a : Nat} (h : 203 ≤ a) : 150 ≠ a := by omega
theorem ne154' {a : Nat} (h : 203 ≤ a) : 154 ≠ a := by omega
/-- neither of the two addresses whose objects a call may write -/
def Far (a : Nat) : Prop := a ≠ 150 ∧ a ≠ 154
theorem far_of {a : Nat} (h : 203 ≤ a) : Far a := ⟨by omega, by omega⟩
structure Kp (h h' : Heap) : Prop where
  keep : ∀ b o, b ≠ 150 → h.get? b = some o → h'.get? b = some o
  tab : ∀ ps, h.get? 150 = some (X.tableObj ps) → ∃ more, h'.get? 150 = some (X.tableObj (ps ++ more))

theorem Kp.refl (h : Heap) : Kp h h := ⟨fun _ _ _ e => e, fun ps e => ⟨#[], by simpa using e⟩⟩
theorem Kp.trans {a b c : Heap} (x : Kp a b) (y : Kp b c) : Kp a c :=
  ⟨fun d o hd e => y.keep d o hd (x.keep d o hd e), fun ps e => by
    obtain ⟨m1, e1⟩ := x.tab ps e
    obtain ⟨m2, e2⟩ := y.tab _ e1
    exact ⟨m1 ++ m2, by rw [e2, Array.append_assoc]⟩⟩
theorem Kp.push (h : Heap) (o : Obj) : Kp h (h.push o) :=
  ⟨fun b o' _ e => Heap.get?_push_of_some o e, fun ps e => ⟨#[], by simpa using Heap.get?_push_of_some o e⟩⟩
theorem Kp.of_keep {h h' : Heap} (k : ∀ b o, h.get? b = some o → h'.get? b = some o) : Kp h h' :=
  ⟨fun b o _ e => k b o e, fun ps e => ⟨#[], by simpa using k _ _ e⟩⟩
theorem Kp.same {h₀ h h' : Heap} {a : Addr} (x : Kp h₀ h) (ha : h₀.objs.size ≤ a) (ha' : 203 ≤ a) (hs : Heap.SameBut a h h') : Kp h₀ h' :=
  ⟨fun b o hb e => (hs.2 b (Nat.ne_of_lt (Nat.lt_of_lt_of_le (Heap.lt_size e) ha))).trans (x.keep b o hb e),
   fun ps e => by
    obtain ⟨m, e⟩ := x.tab ps e
    exact ⟨m, (hs.2 150 (ne150' ha')).trans e⟩⟩

theorem neN {a b : Nat} (h : a ≠ b) : a ≠ b := h
structure Wc where
  w : World
  hb : Heap
  mb : Str → Option Value
  os : OsState
  dq : Drawn → Prop
  gq : Array GenState → Option Obj → Prop

structure Bs (W : Wc) : Prop where
  k : (KK W.w).In W.hb
  b : W.hb.Ns builtinsNs W.mb
  bt : ∀ x : Str, x ≠ "__name__" → W.mb x = bootBuiltins x
  lim : W.hb.NoLimit
  code : W.hb.IsCode 154 150 #[]
  tab : W.hb.TableAt 154 150 #[]
  big : 203 ≤ W.hb.objs.size
  bm : ∃ ob, W.hb.get? 4 = some ob ∧ ob.cls = .type "module" ∧ ob.dict = some builtinsNs ∧ ob.data = .plain

structure Wd (W : Wc) (s : Shared) : Prop where
  bs : Bs W
  lt : W.hb.objs.size ≤ s.heap.objs.size
  kp : Kp W.hb s.heap
  code : ∃ ps, s.heap.IsCode 154 150 ps
  bare : W.gq s.gens (s.heap.get? 150)
  os : s.os = W.os ∧ W.dq s.drawn

theorem k150 (w : World) : (KK w).lookup 150 = none := by kernel_rfl

theorem Wd.k {W : Wc} {s : Shared} (x : Wd W s) : (KK W.w).In s.heap := fun a o e =>
  x.kp.keep a o (fun h => by rw [h, k150] at e; cases e) (x.bs.k a o e)
theorem Ns_kp {h h' : Heap} {a : Addr} {m : Str → Option Value} (x : h.Ns a m) (k : Kp h h') (ha : a ≠ 150) : h'.Ns a m :=
  let ⟨o, es, ep, e, r⟩ := x; ⟨o, es, ep, k.keep _ _ ha e, r⟩
theorem Wd.b {W : Wc} {s : Shared} (x : Wd W s) : s.heap.Ns builtinsNs W.mb := Ns_kp x.bs.b x.kp (by decide)
theorem Wd.lim {W : Wc} {s : Shared} (x : Wd W s) : s.heap.NoLimit :=
  let ⟨mc, p, q⟩ := x.bs.lim; ⟨mc, Ns_kp p x.kp (by decide), q⟩
theorem Wd.big {W : Wc} {s : Shared} (x : Wd W s) : 203 ≤ s.heap.objs.size := Nat.le_trans x.bs.big x.lt

/-- the globals of the text -/
noncomputable def gvar (w : World) (x : Str) : Option Value := match (KK w).lookup 3 with
  | some ⟨_, _, .dict es _, _⟩ => nsFind es x
  | _ => none
def strKeysB (es : Array DictEntry) : Bool := es.all fun e => match e.key with | .str _ _ => true | _ => false
theorem strKeys_of {es : Array DictEntry} (x : strKeysB es = true) : StrKeys es := fun e he => by
  have hx := Array.all_eq_true_iff_forall_mem.mp x e he
  cases hk : e.key <;> rw [hk] at hx <;> first | exact ⟨_, _, rfl⟩ | cases hx
noncomputable def ok3 (w : World) : Bool := match (KK w).lookup 3 with
  | some ⟨_, _, .dict es _, _⟩ => strKeysB es
  | _ => false
theorem ok3_ (w : World) : ok3 w = true := by kernel_rfl
theorem ns3 {w : World} {h : Heap} (x : (KK w).In h) : h.Ns mainGlobals (gvar w) := by
  have q := ok3_ w
  unfold ok3 at q
  split at q
  · rename_i c d es n sl e
    exact ⟨_, es, n, x _ _ e, rfl, strKeys_of q, fun name => by unfold gvar; rw [e]⟩
  · cases q

structure Cx where
  W : Wc
  he : Heap
  env : Env

structure Sc (C : Cx) : Prop where
  hi : 203 ≤ C.he.objs.size
  hb : C.W.hb.objs.size ≤ C.he.objs.size
  gx : C.env.scope.names.lookup (Str.ofString ".0") = none → C.he.objs.size ≤ C.env.locals
  hl : 203 ≤ C.env.locals
  cl : ∀ x c, C.env.cells.lookup x = some c → c ≠ C.env.locals ∧ 203 ≤ c
  cp : ∀ x y c, C.env.cells.lookup x = some c → C.env.cells.lookup y = some c → x = y
  kind : C.env.scope.kind = .function
  gl : C.env.globals = mainGlobals
  bi : C.env.builtins = builtinsNs

def Has (env : Env) (m : Str → Option Value) (h : Heap) (x : Str) (v : Value) : Prop :=
  (env.kindOf x = some .local → m x = some v) ∧
  (env.kindOf x ≠ some .local → ∃ c, env.cells.lookup x = some c ∧ h.IsCell c (some v))

structure St (C : Cx) (ρ : List (Str × Value)) (obs : List (Addr × Obj)) (s : Shared) : Prop where
  sc : Sc C
  wd : Wd C.W s
  kp : Kp C.he s.heap
  fr : ∃ m, s.heap.Ns C.env.locals m ∧ ∀ p ∈ ρ, Has C.env m s.heap p.1 p.2
  ob : ∀ p ∈ obs, s.heap.get? p.1 = some p.2 ∧ Far p.1 ∧ p.1 ≠ C.env.locals ∧ ∀ x c, C.env.cells.lookup x = some c → p.1 ≠ c
  nd : (obs.map (·.1)).Nodup
  ce : ∀ x c, C.env.cells.lookup x = some c → ∃ v, s.heap.IsCell c v
  sz : C.he.objs.size ≤ s.heap.objs.size

theorem IsCell_kp {h h' : Heap} {c : Addr} {v : Option Value} (x : h.IsCell c v) (k : Kp h h') (hc : 203 ≤ c) : h'.IsCell c v :=
  let ⟨o, e, d⟩ := x; ⟨o, k.keep _ _ (ne150 hc) e, d⟩

theorem St.to {C : Cx} {ρ obs} {s s' : Shared} (x : St C ρ obs s) (w : Wd C.W s') (k : Kp s.heap s'.heap) (hz : s.heap.objs.size ≤ s'.heap.objs.size) : St C ρ obs s' := by
  obtain ⟨m, hm, hρ⟩ := x.fr
  refine ⟨x.sc, w, x.kp.trans k, ⟨m, Ns_kp hm k (ne150 x.sc.hl), fun p hp => ⟨(hρ p hp).1, fun hk => ?_⟩⟩, fun p hp => ?_, x.nd, fun y c hc => let ⟨v, h⟩ := x.ce y c hc; ⟨v, IsCell_kp h k (x.sc.cl _ _ hc).2⟩, Nat.le_trans x.sz hz⟩
  · obtain ⟨c, hc, hv⟩ := (hρ p hp).2 hk
    exact ⟨c, hc, IsCell_kp hv k (x.sc.cl _ _ hc).2⟩
  · obtain ⟨a, b, r⟩ := x.ob p hp
    exact ⟨k.keep _ _ b.1 a, b, r⟩
theorem IsCode_at {h : Heap} {c P : Addr} {ps} (x : h.IsCode c P ps) : ∃ o, h.get? P = some o :=
  let ⟨_, _, _, _, _, _, _, _, _, op, _, _, _, _, _, _, _, b, _⟩ := x
  ⟨op, b⟩
theorem IsCode_of {h h' : Heap} {c P : Addr} {ps} (x : h.IsCode c P ps) (h1 : ∀ o, h.get? c = some o → h'.get? c = some o) (h2 : ∀ o, h.get? P = some o → h'.get? P = some o) : h'.IsCode c P ps :=
  let ⟨o, vs, file, tf, flags, tg, inF, text, tt, op, a, r1, r2, r3, r4, r5, r6, b, r⟩ := x
  ⟨o, vs, file, tf, flags, tg, inF, text, tt, op, h1 _ a, r1, r2, r3, r4, r5, r6, h2 _ b, r⟩
/-- a step that keeps every old object -/
theorem Wd.keeps {W : Wc} {s s' : Shared} (x : Wd W s) (hs : s.heap.objs.size ≤ s'.heap.objs.size) (k : ∀ b o, s.heap.get? b = some o → s'.heap.get? b = some o) (hg : s'.gens = s.gens) (ho : s'.os = s.os ∧ s'.drawn = s.drawn) : Wd W s' :=
  ⟨x.bs, Nat.le_trans x.lt hs, x.kp.trans (.of_keep k), let ⟨ps, h⟩ := x.code; ⟨ps, h.keeps k⟩, by
    obtain ⟨ps, h⟩ := x.code
    obtain ⟨op, e⟩ := IsCode_at h
    rw [hg, k _ _ e, ← e]; exact x.bare, ⟨ho.1.trans x.os.1, by rw [ho.2]; exact x.os.2⟩⟩
theorem Wd.same {W : Wc} {s s' : Shared} (x : Wd W s) {a : Addr} (ha : W.hb.objs.size ≤ a) (hs : Heap.SameBut a s.heap s'.heap) (hg : s'.gens = s.gens) (ho : s'.os = s.os ∧ s'.drawn = s.drawn) : Wd W s' := by
  have hb := x.bs.big
  refine ⟨x.bs, by rw [hs.1]; exact x.lt, x.kp.same ha (Nat.le_trans hb ha) hs, ?_, by rw [hg, hs.2 150 (ne150' (Nat.le_trans hb ha))]; exact x.bare, ⟨ho.1.trans x.os.1, by rw [ho.2]; exact x.os.2⟩⟩
  obtain ⟨ps, h⟩ := x.code
  exact ⟨ps, IsCode_of h (fun o e => (hs.2 _ (ne154' (Nat.le_trans hb ha))).trans e) (fun o e => (hs.2 _ (ne150' (Nat.le_trans hb ha))).trans e)⟩
theorem Wd.tok {W : Wc} {s : Shared} (x : Wd W s) (t : Nat) : Wd W { s with toks := t } := ⟨x.bs, x.lt, x.kp, x.code, x.bare, x.os⟩
theorem Wd.push {W : Wc} {s : Shared} (x : Wd W s) (o : Obj) : Wd W { s with heap := s.heap.push o } :=
  x.keeps (s' := { s with heap := s.heap.push o }) (by show _ ≤ (s.heap.push o).objs.size; rw [Heap.size_push]; exact Nat.le_succ _) (fun _ _ e => Heap.get?_push_of_some o e) rfl ⟨rfl, rfl⟩
theorem St.tok {C : Cx} {ρ obs} {s : Shared} (x : St C ρ obs s) (t : Nat) : St C ρ obs { s with toks := t } := x.to (x.wd.tok t) (.refl _) (Nat.le_refl _)
theorem St.push {C : Cx} {ρ obs} {s : Shared} (x : St C ρ obs s) (o : Obj) (hf : o.isFreed = false) : St C ρ ((s.heap.objs.size, o) :: obs) { s with heap := s.heap.push o } := by
  have y := x.to (x.wd.push o) (Kp.push s.heap o) (by show _ ≤ (s.heap.push o).objs.size; rw [Heap.size_push]; exact Nat.le_succ _)
  obtain ⟨m, hm, hρ⟩ := x.fr
  refine ⟨y.sc, y.wd, y.kp, y.fr, fun p hp => ?_, ?_, y.ce, y.sz⟩
  · rcases List.mem_cons.mp hp with rfl | hp
    · refine ⟨Heap.get?_push_size _ hf, far_of x.wd.big, Nat.ne_of_gt hm.lt, fun z c hc e => ?_⟩
      obtain ⟨v, hv⟩ := x.ce z c hc
      exact absurd hv.lt (by rw [← e]; exact Nat.lt_irrefl _)
    · exact y.ob p hp
  · rw [List.map_cons, List.nodup_cons]
    refine ⟨fun hmem => ?_, x.nd⟩
    obtain ⟨p, hp, e⟩ := List.mem_map.mp hmem
    exact absurd (Heap.lt_size (x.ob p hp).1) (by rw [e]; exact Nat.lt_irrefl _)
theorem St.size {C : Cx} {ρ obs} {s : Shared} (x : St C ρ obs s) : C.he.objs.size ≤ s.heap.objs.size := x.sz
/-- a step that keeps all but an object of the frame's own -/
theorem Wd.ext {W : Wc} {s : Shared} (x : Wd W s) {h' : Heap} {a : Addr} (ha : W.hb.objs.size ≤ a) (hs : W.hb.objs.size ≤ h'.objs.size) (k : Heap.ExtBut a s.heap h') : Wd W { s with heap := h' } := by
  have hb := x.bs.big
  refine ⟨x.bs, hs, ⟨fun b o hb' e => k b o (Nat.ne_of_lt (Nat.lt_of_lt_of_le (Heap.lt_size e) ha)) (x.kp.keep b o hb' e), fun ps e => ?_⟩, ?_, ?_, x.os⟩
  · obtain ⟨m, e⟩ := x.kp.tab ps e
    exact ⟨m, k _ _ (ne150' (Nat.le_trans hb ha)) e⟩
  · obtain ⟨ps, h⟩ := x.code
    exact ⟨ps, IsCode_of h (fun o e => k _ _ (ne154' (Nat.le_trans hb ha)) e) (fun o e => k _ _ (ne150' (Nat.le_trans hb ha)) e)⟩
  · obtain ⟨ps, h⟩ := x.code
    obtain ⟨op, e⟩ := IsCode_at h
    show W.gq s.gens (h'.get? 150)
    rw [k _ _ (ne150' (Nat.le_trans hb ha)) e, ← e]; exact x.bare
theorem St.ext {C : Cx} {ρ obs} {s : Shared} {a : Addr} {o : Obj} {h' : Heap} (x : St C ρ ((a, o) :: obs) s) (ha : C.he.objs.size ≤ a) (k : Heap.ExtBut a s.heap h') (hz : C.he.objs.size ≤ h'.objs.size) : St C ρ obs { s with heap := h' } := by
  obtain ⟨m, hm, hρ⟩ := x.fr
  obtain ⟨e1, e2, e3, e4⟩ := x.ob _ List.mem_cons_self
  have hn := x.nd
  rw [List.map_cons, List.nodup_cons] at hn
  have hm' : h'.Ns C.env.locals m := let ⟨o, es, ep, e, r⟩ := hm; ⟨o, es, ep, k _ _ (Ne.symm e3) e, r⟩
  have hcell : ∀ y c v, C.env.cells.lookup y = some c → s.heap.IsCell c v → h'.IsCell c v := fun y c v hc ⟨o, e, d⟩ => ⟨o, k _ _ (Ne.symm (e4 y c hc)) e, d⟩
  refine ⟨x.sc, x.wd.ext (Nat.le_trans x.sc.hb ha) (Nat.le_trans x.sc.hb hz) k, ⟨fun b o hb e => k _ _ (Nat.ne_of_lt (Nat.lt_of_lt_of_le (Heap.lt_size e) ha)) (x.kp.keep b o hb e), fun ps e => ?_⟩, ⟨m, hm', fun p hp => ⟨(hρ p hp).1, fun hk => ?_⟩⟩, fun p hp => ?_, hn.2, fun y c hc => ?_, hz⟩
  · obtain ⟨m, e⟩ := x.kp.tab ps e
    exact ⟨m, k _ _ (Ne.symm e2.1) e⟩
  · obtain ⟨c, hc, hv⟩ := (hρ p hp).2 hk
    exact ⟨c, hc, hcell _ _ _ hc hv⟩
  · obtain ⟨f1, f2⟩ := x.ob p (List.mem_cons_of_mem _ hp)
    exact ⟨k _ _ (fun e => hn.1 (List.mem_map.mpr ⟨p, hp, e⟩)) f1, f2⟩
  · obtain ⟨v, hv⟩ := x.ce y c hc
    exact ⟨v, hcell y c v hc hv⟩
theorem St.upd {C : Cx} {ρ obs} {s : Shared} {a : Addr} {o o' : Obj} {h' : Heap} (x : St C ρ ((a, o) :: obs) s) (ha : C.he.objs.size ≤ a) (k : Heap.SameBut a s.heap h') (e : h'.get? a = some o') : St C ρ ((a, o') :: obs) { s with heap := h' } := by
  have y := x.ext ha k.extBut (by rw [k.1]; exact x.sz)
  have hn := x.nd
  refine ⟨y.sc, y.wd, y.kp, y.fr, fun p hp => ?_, hn, y.ce, y.sz⟩
  rcases List.mem_cons.mp hp with rfl | hp
  · exact ⟨e, (x.ob _ List.mem_cons_self).2⟩
  · exact y.ob p hp
/-- the ledger in another order -/
theorem St.perm {C : Cx} {ρ} {obs obs' : List (Addr × Obj)} {s : Shared} (x : St C ρ obs s) (h : obs.Perm obs') : St C ρ obs' s :=
  ⟨x.sc, x.wd, x.kp, x.fr, fun p hp => x.ob p (h.mem_iff.mpr hp), (h.map _).nodup_iff.mp x.nd, x.ce, x.sz⟩
end Mine
set_option maxRecDepth 100000
set_option Elab.async false
set_option linter.unusedVariables false
namespace Mine
open PySem PySem.W PySem.Spec PyProof.Rows PySem.Calls

abbrev Led := List (Addr × Obj)
abbrev Loc := List (Str × Value)
def Fls : Value → Shared → Prop := fun _ _ => False

def Tr (C : Cx) (A : Around) (E : Value → Shared → Prop) {α : Type} (ρ : Loc) (obs : Led) (t : Sem α) (Q : α → Led → Prop) : Prop :=
  ∀ s, St C ρ obs s → wpAny (model PR C.W.w) A t (fun v s' => ∃ obs', St C ρ obs' s' ∧ Q v obs') E s
abbrev Ev (C : Cx) (A : Around) (E : Value → Shared → Prop) (ρ : Loc) (obs : Led) (e : Expr) (Q : Value → Led → Prop) : Prop := Tr C A E ρ obs (eval e C.env) Q
abbrev Ts (C : Cx) (A : Around) (E : Value → Shared → Prop) (ρ : Loc) (obs : Led) (e : Expr) (Q : Bool → Led → Prop) : Prop := Tr C A E ρ obs (isTrue e C.env (eval e C.env)) Q
abbrev Ag (C : Cx) (A : Around) (E : Value → Shared → Prop) (ρ : Loc) (obs : Led) (pos : Pos) (es : List Expr) (Q : List Value → Led → Prop) : Prop := Tr C A E ρ obs (spliced (backTo pos (starEach es C.env))) Q
def Ex (C : Cx) (A : Around) (E : Value → Shared → Prop) (ρ : Loc) (obs : Led) (t : Sem Flow) (Q : Flow → Loc → Led → Prop) : Prop :=
  ∀ s, St C ρ obs s → wpAny (model PR C.W.w) A t (fun f s' => ∃ ρ' obs', St C ρ' obs' s' ∧ Q f ρ' obs') E s
def Ob (h : Heap) (obs : Led) : Prop := (∀ p ∈ obs, h.get? p.1 = some p.2 ∧ Far p.1) ∧ (obs.map (·.1)).Nodup
def Cl (W : Wc) (A : Around) (E : Value → Shared → Prop) (f : Value) (vs : List Value) (obs : Led) (Q : Value → Prop) : Prop :=
  ∀ s, Wd W s → Ob s.heap obs → wpAny (model PR W.w) A (call f vs) (fun v s' => Wd W s' ∧ Kp s.heap s'.heap ∧ s.heap.objs.size ≤ s'.heap.objs.size ∧ Q v) E s

section
variable {C : Cx} {A : Around} {E : Value → Shared → Prop} {α β : Type} {ρ ρ' : Loc} {obs : Led}

theorem Tr_mono {t : Sem α} {Q Q' : α → Led → Prop} (h : Tr C A E ρ obs t Q) (hq : ∀ v o, Q v o → Q' v o) : Tr C A E ρ obs t Q' :=
  fun s hs => wpAny_mono (h s hs) (fun v s' ⟨o, h1, h2⟩ => ⟨o, h1, hq v o h2⟩) fun _ _ x => x
theorem Tr_pure {a : α} {Q : α → Led → Prop} (h : Q a obs) : Tr C A E ρ obs (pure a) Q := fun s hs => wpAny_pure ⟨obs, hs, h⟩
theorem Tr_bind {t : Sem α} {f : α → Sem β} {Q : β → Led → Prop} (h : Tr C A E ρ obs t fun a o => Tr C A E ρ o (f a) Q) : Tr C A E ρ obs (t >>= f) Q :=
  fun s hs => wpAny_bind (wpAny_mono (h s hs) (fun a s' ⟨o, h1, h2⟩ => h2 s' h1) fun _ _ x => x)
/-- a rule that only takes tokens -/
theorem Tr_of {t : Sem α} {v : Tok → α} {Q : α → Led → Prop} (hr : ∀ (s : Shared) (R : α → Shared → Prop), St C ρ obs s → R (v s.toks) { s with toks := s.toks + 1 } → wpAny (model PR C.W.w) A t R E s) (h : ∀ t, Q (v t) obs) : Tr C A E ρ obs t Q :=
  fun s hs => hr s _ hs ⟨obs, hs.tok _, h _⟩
theorem Tr_of0 {t : Sem α} {v : α} {Q : α → Led → Prop} (hr : ∀ (s : Shared) (R : α → Shared → Prop), St C ρ obs s → R v s → wpAny (model PR C.W.w) A t R E s) (h : Q v obs) : Tr C A E ρ obs t Q :=
  fun s hs => hr s _ hs ⟨obs, hs, h⟩

theorem Has.kinds {env : Env} {m : Str → Option Value} {h : Heap} {x : Str} {v : Value} (H : Has env m h x v) (hk : (env.kindOf x == some .local || env.kindOf x == some .cell || env.kindOf x == some .free) = true) :
    (env.kindOf x = some .local ∧ m x = some v) ∨ ((env.kindOf x = some .cell ∨ env.kindOf x = some .free) ∧ ∃ c, env.cells.lookup x = some c ∧ h.IsCell c (some v)) := by
  rcases Bool.or_eq_true_iff.mp hk with h1 | h1
  · rcases Bool.or_eq_true_iff.mp h1 with h2 | h2
    · exact .inl ⟨beq_iff_eq.mp h2, H.1 (beq_iff_eq.mp h2)⟩
    · exact .inr ⟨.inl (beq_iff_eq.mp h2), H.2 (by rw [beq_iff_eq.mp h2]; decide)⟩
  · exact .inr ⟨.inr (beq_iff_eq.mp h1), H.2 (by rw [beq_iff_eq.mp h1]; decide)⟩

theorem Ev_name {x : Str} {pos : Pos} {v : Value} {Q : Value → Led → Prop} (hx : (x, v) ∈ ρ) (h : Q v obs)
    (hk : (C.env.kindOf x == some .local || C.env.kindOf x == some .cell || C.env.kindOf x == some .free) = true := by kernel_rfl!)
    (hd : (x == ("__debug__" : Str) || x == ("__classdict__" : Str)) = false := by decide +kernel) : Ev C A E ρ obs (.Name x pos) Q := by
  intro s hs
  obtain ⟨m, hm, hρ⟩ := hs.fr
  obtain ⟨d1, d2⟩ := Bool.or_eq_false_iff.mp hd
  rcases (hρ _ hx).kinds hk with ⟨k, e⟩ | ⟨k | k, c, hc, hv⟩
  · exact wpAny_Name (wpAny_loadName_local hs.sc.kind k hm e ⟨obs, hs, h⟩) d1
  · exact wpAny_Name (wpAny_loadName_cell hs.sc.kind k hc hv ⟨obs, hs, h⟩) d1
  · exact wpAny_Name (wpAny_loadName_free hs.sc.kind k hc hv ⟨obs, hs, h⟩ d2) d1

theorem loadName_glob {M : Model} {env : Env} {x : Str} {s : Shared} {mg mb : Str → Option Value} {v : Value} {Q : Value → Shared → Prop} (hk : env.scope.kind = .function) (hl : env.kindOf x = some .globalImplicit)
    (hg : s.heap.Ns env.globals mg) (hv : mg x = some v) (h : Q v s) : wpAny M A (loadName env x) Q E s := by
  unfold loadName
  simp only [Env.blockKind, hk, hl, ScopeKind.isAnnotationScope, Bool.false_and, Bool.false_eq_true, if_false]
  unfold loadGlobal
  refine wpAny_bind (wpAny_nsGet hg ?_)
  rw [hv]; exact wpAny_pure h
theorem loadName_bi {M : Model} {env : Env} {x : Str} {s : Shared} {mg mb : Str → Option Value} {v : Value} {Q : Value → Shared → Prop} (hk : env.scope.kind = .function) (hl : env.kindOf x = some .globalImplicit)
    (hg : s.heap.Ns env.globals mg) (hv : mg x = none) (hb : s.heap.Ns env.builtins mb) (hv' : mb x = some v) (h : Q v s) : wpAny M A (loadName env x) Q E s := by
  unfold loadName
  simp only [Env.blockKind, hk, hl, ScopeKind.isAnnotationScope, Bool.false_and, Bool.false_eq_true, if_false]
  unfold loadGlobal
  refine wpAny_bind (wpAny_nsGet hg ?_)
  rw [hv]
  refine wpAny_bind (wpAny_nsGet hb ?_)
  rw [hv']; exact wpAny_pure h

theorem Ev_glob {x : Str} {pos : Pos} {v : Value} {Q : Value → Led → Prop} (hv : gvar C.W.w x = some v) (h : Q v obs) (hk : C.env.kindOf x = some .globalImplicit := by kernel_rfl!)
    (hd : (x == ("__debug__" : Str)) = false := by decide +kernel) : Ev C A E ρ obs (.Name x pos) Q := fun s hs =>
  wpAny_Name (loadName_glob (mb := C.W.mb) hs.sc.kind hk (hs.sc.gl ▸ ns3 hs.wd.k) hv ⟨obs, hs, h⟩) hd
theorem Ev_bi {x : Str} {pos : Pos} {v : Value} {Q : Value → Led → Prop} (hb : bootBuiltins x = some v) (h : Q v obs) (hv : gvar C.W.w x = none := by kernel_rfl!) (hk : C.env.kindOf x = some .globalImplicit := by kernel_rfl!)
    (hd : (x == ("__debug__" : Str) || x == ("__name__" : Str)) = false := by decide +kernel) : Ev C A E ρ obs (.Name x pos) Q := fun s hs => by
  obtain ⟨d1, d2⟩ := Bool.or_eq_false_iff.mp hd
  exact wpAny_Name (loadName_bi hs.sc.kind hk (hs.sc.gl ▸ ns3 hs.wd.k) hv (hs.sc.bi ▸ hs.wd.b) ((hs.wd.bs.bt x (fun e => by subst e; simp at d2)).trans hb) ⟨obs, hs, h⟩) d1

theorem Ev_int {i : Int} {k pos} {Q : Value → Led → Prop} (h : ∀ t, Q (.int i t) obs) : Ev C A E ρ obs (.Constant (.int i) k pos) Q := Tr_of (fun _ _ _ r => wpAny_Constant_int r) h
theorem Ev_bool {b : Bool} {k pos} {Q : Value → Led → Prop} (h : Q (.bool b) obs) : Ev C A E ρ obs (.Constant (.bool b) k pos) Q := Tr_of0 (fun _ _ _ r => wpAny_Constant_bool r) h
theorem Ev_str {x : Str} {k pos} {Q : Value → Led → Prop} (h : ∀ t, Q (.str x t) obs) : Ev C A E ρ obs (.Constant (.str x) k pos) Q := Tr_of (fun _ _ _ r => wpAny_Constant_str r) h
theorem Ev_bytes {x k pos} {Q : Value → Led → Prop} (h : ∀ t, Q (.bytes x.toArray t) obs) : Ev C A E ρ obs (.Constant (.bytes x) k pos) Q := Tr_of (fun _ _ _ r => Constant_bytes r) h

theorem Ev_bin {l r : Expr} {op : Operator} {pos : Pos} {Q : Value → Led → Prop} (h : Ev C A E ρ obs l fun a o => Ev C A E ρ o r fun b o' => Tr C A E ρ o' (binaryOp op a b) Q) : Ev C A E ρ obs (.BinOp l op r pos) Q :=
  fun s hs => wpAny_BinOp (wpAny_mono (h s hs) (fun _ s1 ⟨_, h1, q1⟩ => wpAny_mono (q1 s1 h1) (fun _ s2 ⟨_, h2, q2⟩ => q2 s2 h2) fun _ _ x => x) fun _ _ x => x)
theorem Ev_cmp {l r : Expr} {op : CmpOp} {pos : Pos} {Q : Value → Led → Prop} (h : Ev C A E ρ obs l fun a o => Ev C A E ρ o r fun b o' => Tr C A E ρ o' (compareOp op a b) Q)
    (hm : behindInMarks op r = false := by with_unfolding_all rfl) : Ev C A E ρ obs (.Compare l [op] [r] pos) Q :=
  fun s hs => wpAny_Compare1 (wpAny_mono (h s hs) (fun _ s1 ⟨_, h1, q1⟩ => wpAny_mono (q1 s1 h1) (fun _ s2 ⟨_, h2, q2⟩ => q2 s2 h2) fun _ _ x => x) fun _ _ x => x) hm
theorem Ts_cmp {l r : Expr} {op : CmpOp} {pos : Pos} {Q : Bool → Led → Prop} (h : Ev C A E ρ obs l fun a o => Ev C A E ρ o r fun b o' => Tr C A E ρ o' (compareOp op a b) fun c o'' => Tr C A E ρ o'' (truthy c) Q)
    (hm : behindInMarks op r = false := by with_unfolding_all rfl) : Ts C A E ρ obs (.Compare l [op] [r] pos) Q :=
  fun s hs => wpAny_isTrue_Compare1 (wpAny_mono (h s hs) (fun _ s1 ⟨_, h1, q1⟩ => wpAny_mono (q1 s1 h1) (fun _ s2 ⟨_, h2, q2⟩ => wpAny_mono (q2 s2 h2) (fun _ s3 ⟨_, h3, q3⟩ => q3 s3 h3) fun _ _ x => x) fun _ _ x => x) fun _ _ x => x) hm
theorem Ts_not {x : Expr} {pos : Pos} {Q : Bool → Led → Prop} (h : Ts C A E ρ obs x fun b o => Q (!b) o) : Ts C A E ρ obs (.UnaryOp .Not x pos) Q :=
  fun s hs => wpAny_isTrue_Not (h s hs)
theorem Ts_value {e : Expr} {Q : Bool → Led → Prop} (h : Ev C A E ρ obs e fun v o => Tr C A E ρ o (truthy v) Q)
    (he : isTrue e C.env (eval e C.env) = (do let v ← eval e C.env; standAt e.pos; holding [v] (truthy v)) := by with_unfolding_all rfl) : Ts C A E ρ obs e Q :=
  fun s hs => wpAny_isTrue_value (wpAny_mono (h s hs) (fun _ s1 ⟨_, h1, q1⟩ => q1 s1 h1) fun _ _ x => x) he
theorem Ts_and {x y : Expr} {pos : Pos} {Q : Bool → Led → Prop} (h : Ts C A E ρ obs x fun b o => if b then Ts C A E ρ o y Q else Q false o) : Ts C A E ρ obs (.BoolOp .And [x, y] pos) Q :=
  fun s hs => wpAny_isTrue_BoolOp (wpAny_allTrue_And_cons (wpAny_mono (h s hs) (fun b s1 ⟨o1, h1, q1⟩ => by
    cases b
    · exact ⟨o1, h1, q1⟩
    · exact wpAny_allTrue_And_cons (wpAny_mono (q1 s1 h1) (fun b s2 ⟨o2, h2, q2⟩ => by
        cases b
        · exact ⟨o2, h2, q2⟩
        · exact wpAny_allTrue_And_nil ⟨o2, h2, q2⟩) fun _ _ x => x)) fun _ _ x => x))
theorem Ts_or {x y : Expr} {pos : Pos} {Q : Bool → Led → Prop} (h : Ts C A E ρ obs x fun b o => if b then Q true o else Ts C A E ρ o y Q) : Ts C A E ρ obs (.BoolOp .Or [x, y] pos) Q :=
  fun s hs => wpAny_isTrue_BoolOp (wpAny_allTrue_Or_cons (wpAny_mono (h s hs) (fun b s1 ⟨o1, h1, q1⟩ => by
    cases b
    · exact wpAny_allTrue_Or_cons (wpAny_mono (q1 s1 h1) (fun b s2 ⟨o2, h2, q2⟩ => by
        cases b
        · exact wpAny_allTrue_Or_nil ⟨o2, h2, q2⟩
        · exact ⟨o2, h2, q2⟩) fun _ _ x => x)
    · exact ⟨o1, h1, q1⟩) fun _ _ x => x))
theorem Ev_and {x y : Expr} {pos : Pos} {Q : Value → Led → Prop} (h : Ev C A E ρ obs x fun v o => Tr C A E ρ o (truthy v) fun b o' => if b then Ev C A E ρ o' y Q else Q v o') : Ev C A E ρ obs (.BoolOp .And [x, y] pos) Q :=
  fun s hs => wpAny_And2 (wpAny_mono (h s hs) (fun v s1 ⟨o1, h1, q1⟩ => wpAny_mono (q1 s1 h1) (fun b s2 ⟨o2, h2, q2⟩ => by
    cases b
    · exact ⟨o2, h2, q2⟩
    · exact q2 s2 h2) fun _ _ x => x) fun _ _ x => x)
theorem Ev_if {t b o : Expr} {pos : Pos} {Q : Value → Led → Prop} (h : Ts C A E ρ obs t fun c o1 => if c then Ev C A E ρ o1 b Q else Ev C A E ρ o1 o Q) : Ev C A E ρ obs (.IfExp t b o pos) Q :=
  fun s hs => wpAny_IfExp (wpAny_mono (h s hs) (fun c s1 ⟨o1, h1, q1⟩ => by cases c <;> exact q1 s1 h1) fun _ _ x => x)

theorem Tr_bool {b : Bool} {Q : Bool → Led → Prop} (h : Q b obs) : Tr C A E ρ obs (truthy (.bool b)) Q := Tr_of0 (fun _ _ _ r => wpAny_truthy_bool r) h
section
variable {a b : Int} {t u : Tok} {Q : Value → Led → Prop}
theorem Tr_add (h : ∀ t, Q (.int (a + b) t) obs) : Tr C A E ρ obs (binaryOp .Add (.int a t) (.int b u)) Q := Tr_of (fun _ _ _ r => PyProof.Rows.add_int r) h
theorem Tr_sub (h : ∀ t, Q (.int (a - b) t) obs) : Tr C A E ρ obs (binaryOp .Sub (.int a t) (.int b u)) Q := Tr_of (fun _ _ _ r => PyProof.Rows.sub_int r) h
theorem Tr_mul (hm : IntMulOk a b) (h : ∀ t, Q (.int (a * b) t) obs) : Tr C A E ρ obs (binaryOp .Mult (.int a t) (.int b u)) Q := Tr_of (fun _ _ _ r => PyProof.Rows.mul_int r hm) h
theorem Tr_mod (hb : b ≠ 0) (h : ∀ t, Q (.int (a.fmod b) t) obs) : Tr C A E ρ obs (binaryOp .Mod (.int a t) (.int b u)) Q := Tr_of (fun _ _ _ r => PyProof.Rows.mod_int hb r) h
theorem Tr_fdiv (hb : b ≠ 0) (hp : Builtin.divisionGoesByPylong a b = false) (h : ∀ t, Q (.int (a.fdiv b) t) obs) : Tr C A E ρ obs (binaryOp .FloorDiv (.int a t) (.int b u)) Q := Tr_of (fun _ _ _ r => PyProof.Rows.floordiv_int hb r (.inl hp)) h
theorem Tr_and (h : ∀ t, Q (.int (Builtin.bitAnd a b) t) obs) : Tr C A E ρ obs (binaryOp .BitAnd (.int a t) (.int b u)) Q := Tr_of (fun _ _ _ r => PyProof.Rows.and_int r) h
theorem Tr_xor (h : ∀ t, Q (.int (Builtin.bitXor a b) t) obs) : Tr C A E ρ obs (binaryOp .BitXor (.int a t) (.int b u)) Q := Tr_of (fun _ _ _ r => PyProof.Rows.xor_int r) h
theorem Tr_shr (hn : 0 ≤ b) (h : ∀ t, Q (.int (a.fdiv (2 ^ b.toNat)) t) obs) : Tr C A E ρ obs (binaryOp .RShift (.int a t) (.int b u)) Q := Tr_of (fun _ _ _ r => PyProof.Rows.rshift_int hn r) h
theorem Tr_shl (hn : 0 ≤ b) (hsz : (Builtin.Int.intBits a : Int) + b ≤ 2 ^ 27) (h : ∀ t, Q (.int (a * 2 ^ b.toNat) t) obs) : Tr C A E ρ obs (binaryOp .LShift (.int a t) (.int b u)) Q := Tr_of (fun _ _ _ r => PyProof.Rows.lshift_int hn hsz r) h
theorem Tr_pow (hn : 0 ≤ b) (hsz : (Builtin.Int.intBits a : Int) * b ≤ 2 ^ 27) (h : ∀ t, Q (.int (a ^ b.toNat) t) obs) : Tr C A E ρ obs (binaryOp .Pow (.int a t) (.int b u)) Q := Tr_of (fun _ _ _ r => PyProof.Rows.pow_int hn hsz r) h
theorem Tr_eq (h : Q (.bool (a == b)) obs) : Tr C A E ρ obs (compareOp .Eq (.int a t) (.int b u)) Q := Tr_of0 (fun _ _ _ r => PyProof.Rows.eq_int r) h
theorem Tr_ne (h : Q (.bool (a != b)) obs) : Tr C A E ρ obs (compareOp .NotEq (.int a t) (.int b u)) Q := Tr_of0 (fun _ _ _ r => PyProof.Rows.ne_int r) h
theorem Tr_lt (h : Q (.bool (decide (a < b))) obs) : Tr C A E ρ obs (compareOp .Lt (.int a t) (.int b u)) Q := Tr_of0 (fun _ _ _ r => PyProof.Rows.lt_int r) h
theorem Tr_gt (h : Q (.bool (decide (b < a))) obs) : Tr C A E ρ obs (compareOp .Gt (.int a t) (.int b u)) Q := Tr_of0 (fun _ _ _ r => PyProof.Rows.gt_int r) h
end

theorem Ag_nil {pos : Pos} {Q : List Value → Led → Prop} (h : Q [] obs) : Ag C A E ρ obs pos [] Q := fun _ hs => args_nil ⟨obs, hs, h⟩
theorem Ag_cons {pos : Pos} {e : Expr} {r : List Expr} {Q : List Value → Led → Prop} (h : Ev C A E ρ obs e fun v o => Ag C A E ρ o pos r fun vs o' => Q (v :: vs) o')
    (he : starEach (e :: r) C.env = (false, eval e C.env) :: starEach r C.env := by with_unfolding_all rfl) : Ag C A E ρ obs pos (e :: r) Q :=
  fun s hs => args_cons (wpAny_mono (h s hs) (fun _ s1 ⟨_, h1, q1⟩ => q1 s1 h1) fun _ _ x => x) he

theorem Tr_cl {f : Value} {vs : List Value} {P : Value → Prop} {Q : Value → Led → Prop} (hc : Cl C.W A E f vs obs P) (h : ∀ v, P v → Q v obs) : Tr C A E ρ obs (call f vs) Q :=
  fun s hs => wpAny_mono (hc s hs.wd ⟨fun p hp => ⟨(hs.ob p hp).1, (hs.ob p hp).2.1⟩, hs.nd⟩) (fun v _ ⟨w', k, z, p⟩ => ⟨obs, hs.to w' k z, h v p⟩) fun _ _ x => x

theorem Ev_call {x : Str} {xp pos : Pos} {e : Expr} {r : List Expr} {f : Value} {Q : Value → Led → Prop} (hv : gvar C.W.w x = some f) (hf : keepIn (KK C.W.w) f = true)
    (h : Ag C A E ρ obs pos (e :: r) fun vs o => Tr C A E ρ o (call f vs) Q) (hk : C.env.kindOf x = some .globalImplicit := by kernel_rfl!)
    (hd : (x == ("__debug__" : Str)) = false := by decide +kernel) (he : starEach (e :: r) C.env = (false, eval e C.env) :: starEach r C.env := by with_unfolding_all rfl)
    (hp : (backTo pos (starEach r C.env)).any (·.1) = false := by with_unfolding_all rfl) : Ev C A E ρ obs (.Call (.Name x xp) (e :: r) [] pos) Q := fun s hs =>
  Call_ (wpAny_mono (Ev_glob (C := C) (A := A) (E := E) (ρ := ρ) (obs := obs) (Q := fun v o => v = f ∧ o = obs) hv ⟨rfl, rfl⟩ hk hd s hs) (fun v s1 ⟨o, h1, q1⟩ => by
    obtain ⟨rfl, rfl⟩ := q1
    exact callWith_K (h₀ := s1.heap) h1.wd.k hf (wpAny_mono (h s1 h1) (fun vs s2 ⟨o2, h2, q2⟩ => ⟨h2.wd.k, q2 s2 h2⟩) fun _ _ x => x) he hp) fun _ _ x => x)

theorem Ex_nil {Q : Flow → Loc → Led → Prop} (h : Q .next ρ obs) : Ex C A E ρ obs (execs [] C.env) Q := fun _ hs => wpAny_execs_nil ⟨ρ, obs, hs, h⟩
theorem Ex_cons {st : Stmt} {r : List Stmt} {Q : Flow → Loc → Led → Prop} (h : Ex C A E ρ obs (exec st C.env) fun f ρ' o => match f with | .next => Ex C A E ρ' o (execs r C.env) Q | f => Q f ρ' o) :
    Ex C A E ρ obs (execs (st :: r) C.env) Q := fun s hs => wpAny_execs_cons (wpAny_mono (h s hs) (fun f s1 ⟨ρ1, o1, h1, q1⟩ => by cases f <;> first | exact q1 s1 h1 | exact ⟨ρ1, o1, h1, q1⟩) fun _ _ x => x)
theorem Ex_mono {t : Sem Flow} {Q Q' : Flow → Loc → Led → Prop} (h : Ex C A E ρ obs t Q) (hq : ∀ f r o, Q f r o → Q' f r o) : Ex C A E ρ obs t Q' :=
  fun s hs => wpAny_mono (h s hs) (fun _ _ ⟨r, o, h1, h2⟩ => ⟨r, o, h1, hq _ r o h2⟩) fun _ _ x => x
theorem Ex_ret {e : Expr} {pos : Pos} {Q : Flow → Loc → Led → Prop} (h : Ev C A E ρ obs e fun v o => Q (.ret v) ρ o) : Ex C A E ρ obs (exec (.Return (some e) pos) C.env) Q :=
  fun s hs => wpAny_Return_some (wpAny_mono (h s hs) (fun _ _ ⟨o, h1, h2⟩ => ⟨ρ, o, h1, h2⟩) fun _ _ x => x)
theorem Ex_if {t : Expr} {b o : List Stmt} {pos : Pos} {Q : Flow → Loc → Led → Prop} (h : Ts C A E ρ obs t fun c o1 => if c then Ex C A E ρ o1 (execs b C.env) Q else Ex C A E ρ o1 (execs o C.env) Q) :
    Ex C A E ρ obs (exec (.If t b o pos) C.env) Q := fun s hs => wpAny_If (wpAny_mono (h s hs) (fun c s1 ⟨o1, h1, q1⟩ => by cases c <;> exact q1 s1 h1) fun _ _ x => x)
end

/-- a store under a name -/
def setL (x : Str) (v : Value) (ρ : Loc) : Loc := (x, v) :: ρ.filter fun p => !(p.1 == x)
theorem mem_setL {x y : Str} {v u : Value} {ρ : Loc} : (y, u) ∈ setL x v ρ ↔ (y = x ∧ u = v) ∨ ((y, u) ∈ ρ ∧ y ≠ x) := by
  unfold setL
  rw [List.mem_cons, List.mem_filter]
  simp [Prod.ext_iff]
theorem setL_here {x : Str} {v : Value} {ρ : Loc} : (x, v) ∈ setL x v ρ := List.mem_cons_self
theorem setL_there {x y : Str} {v u : Value} {ρ : Loc} (h : (y, u) ∈ ρ) (hn : (y == x) = false) : (y, u) ∈ setL x v ρ := mem_setL.mpr (.inr ⟨h, fun e => by subst e; simp at hn⟩)

section
variable {C : Cx} {A : Around} {E : Value → Shared → Prop} {ρ : Loc} {obs : Led} {s : Shared}
theorem St.store {x : Str} {v : Value} {h' : Heap} {m : Str → Option Value} (S : St C ρ obs s) (hm : s.heap.Ns C.env.locals m) (hρ : ∀ p ∈ ρ, Has C.env m s.heap p.1 p.2) (hn : h'.Ns C.env.locals (fun y => if y = x then some v else m y)) (hs : Heap.SameBut C.env.locals s.heap h') (hk : C.env.kindOf x = some .local) (hg : C.env.scope.names.lookup (Str.ofString ".0") = none) :
    St C (setL x v ρ) obs { s with heap := h', toks := s.toks + 1 } := by
  have l1 : C.he.objs.size ≤ C.env.locals := S.sc.gx hg
  refine ⟨S.sc, ?_, S.kp.same l1 (Nat.le_trans S.sc.hi l1) hs, ⟨_, hn, fun p hp => ?_⟩, fun p hp => ?_, S.nd, fun y c hc => ?_, by show _ ≤ h'.objs.size; rw [hs.1]; exact S.sz⟩
  · exact (S.wd.same (s' := { s with heap := h' }) (Nat.le_trans S.sc.hb l1) hs rfl ⟨rfl, rfl⟩).tok (s.toks + 1)
  · obtain ⟨y, u⟩ := p
    rcases mem_setL.mp hp with ⟨rfl, rfl⟩ | ⟨h1, h2⟩
    · exact ⟨fun _ => if_pos rfl, fun n => absurd hk n⟩
    · obtain ⟨a, b⟩ := hρ _ h1
      refine ⟨fun k => (if_neg h2).trans (a k), fun k => ?_⟩
      obtain ⟨c, hc, hv⟩ := b k
      exact ⟨c, hc, hv.sameBut hs (S.sc.cl _ _ hc).1⟩
  · obtain ⟨a, b, c, d⟩ := S.ob p hp
    exact ⟨(hs.2 _ c).trans a, b, c, d⟩
  · obtain ⟨u, hu⟩ := S.ce y c hc
    exact ⟨u, hu.sameBut hs (S.sc.cl _ _ hc).1⟩
theorem St.storeC {x : Str} {v : Value} {c : Addr} {h' : Heap} (S : St C ρ obs s) (hk : C.env.kindOf x ≠ some .local) (hc : C.env.cells.lookup x = some c) (ho : C.he.objs.size ≤ c) (hv : h'.IsCell c (some v)) (hs : Heap.SameBut c s.heap h') :
    St C (setL x v ρ) obs { s with heap := h' } := by
  obtain ⟨m, hm, hρ⟩ := S.fr
  refine ⟨S.sc, S.wd.same (s' := { s with heap := h' }) (Nat.le_trans S.sc.hb ho) hs rfl ⟨rfl, rfl⟩, S.kp.same ho (Nat.le_trans S.sc.hi ho) hs, ⟨m, hm.sameBut hs (Ne.symm (S.sc.cl _ _ hc).1), fun p hp => ?_⟩, fun p hp => ?_, S.nd, fun y d hd => ?_, by show _ ≤ h'.objs.size; rw [hs.1]; exact S.sz⟩
  · obtain ⟨y, u⟩ := p
    rcases mem_setL.mp hp with ⟨rfl, rfl⟩ | ⟨h1, h2⟩
    · exact ⟨fun k => absurd k hk, fun _ => ⟨c, hc, hv⟩⟩
    · obtain ⟨a, b⟩ := hρ _ h1
      refine ⟨a, fun k => ?_⟩
      obtain ⟨d, hd, hv'⟩ := b k
      exact ⟨d, hd, hv'.sameBut hs fun e => h2 (S.sc.cp _ _ _ (e ▸ hd) hc)⟩
  · obtain ⟨a, b, e, d⟩ := S.ob p hp
    exact ⟨(hs.2 _ (d _ _ hc)).trans a, b, e, d⟩
  · by_cases e : d = c
    · subst e; exact ⟨_, hv⟩
    · obtain ⟨u, hu⟩ := S.ce y d hd
      exact ⟨u, hu.sameBut hs e⟩

theorem Ex_setL {x : Str} {v : Value} {Q : Led → Loc → Prop} (hk : C.env.kindOf x = some .local) (hg : C.env.scope.names.lookup (Str.ofString ".0") = none) (h : Q obs (setL x v ρ)) : ∀ s, St C ρ obs s → wpAny (model PR C.W.w) A (storeName C.env x v) (fun _ s' => ∃ ρ' obs', St C ρ' obs' s' ∧ Q obs' ρ') E s := fun s hs => by
  obtain ⟨m, hm, hρ⟩ := hs.fr
  refine wpAny_storeName_local hk hm (fun h' hn hs' => ⟨_, _, hs.store hm hρ hn hs' hk hg, h⟩) ?_
  rw [hs.sc.kind]; rfl
theorem Ex_setC {x : Str} {v : Value} {Q : Led → Loc → Prop} (hk : C.env.kindOf x = some .cell) (ho : ∀ c, C.env.cells.lookup x = some c → C.he.objs.size ≤ c) (hsome : (C.env.cells.lookup x).isSome = true) (h : Q obs (setL x v ρ)) :
    ∀ s, St C ρ obs s → wpAny (model PR C.W.w) A (storeName C.env x v) (fun _ s' => ∃ ρ' obs', St C ρ' obs' s' ∧ Q obs' ρ') E s := fun s hs => by
  obtain ⟨c, hc⟩ := Option.isSome_iff_exists.mp hsome
  obtain ⟨u, hu⟩ := hs.ce x c hc
  exact wpAny_storeName_cell hs.sc.kind hk hc hu (fun h' hv hs' => ⟨_, _, hs.storeC (by rw [hk]; decide) hc (ho c hc) hv hs', h⟩)

theorem Ex_assign {x : Str} {xp pos : Pos} {e : Expr} {Q : Flow → Loc → Led → Prop} (h : Ev C A E ρ obs e fun v o => Q .next (setL x v ρ) o) (hk : C.env.kindOf x = some .local := by kernel_rfl!) (hg : C.env.scope.names.lookup (Str.ofString ".0") = none := by kernel_rfl!)
    (hs : swapsWith e (some (.Name x xp)) pos.line C.env = pure false := by with_unfolding_all rfl) : Ex C A E ρ obs (exec (.Assign [.Name x xp] e pos) C.env) Q := fun s S =>
  wpAny_Assign_Name (wpAny_mono (h s S) (fun v s1 ⟨o, h1, q1⟩ => wpAny_mono (Ex_setL (A := A) (E := E) (Q := fun o' ρ' => o' = o ∧ ρ' = setL x v ρ) hk hg ⟨rfl, rfl⟩ s1 h1) (fun _ s2 ⟨ρ2, o2, h2, q2⟩ => ⟨ρ2, o2, h2, q2.1 ▸ q2.2 ▸ q1⟩) fun _ _ x => x) fun _ _ x => x) hs
theorem Ex_assignC {x : Str} {xp pos : Pos} {e : Expr} {Q : Flow → Loc → Led → Prop} (ho : ∀ c, C.env.cells.lookup x = some c → C.he.objs.size ≤ c) (h : Ev C A E ρ obs e fun v o => Q .next (setL x v ρ) o) (hk : C.env.kindOf x = some .cell := by kernel_rfl!)
    (hsome : (C.env.cells.lookup x).isSome = true := by kernel_rfl!)
    (hs : swapsWith e (some (.Name x xp)) pos.line C.env = pure false := by with_unfolding_all rfl) : Ex C A E ρ obs (exec (.Assign [.Name x xp] e pos) C.env) Q := fun s S =>
  wpAny_Assign_Name (wpAny_mono (h s S) (fun v s1 ⟨o, h1, q1⟩ => wpAny_mono (Ex_setC (A := A) (E := E) (Q := fun o' ρ' => o' = o ∧ ρ' = setL x v ρ) hk ho hsome ⟨rfl, rfl⟩ s1 h1) (fun _ s2 ⟨ρ2, o2, h2, q2⟩ => ⟨ρ2, o2, h2, q2.1 ▸ q2.2 ▸ q1⟩) fun _ _ x => x) fun _ _ x => x) hs
/-- forgetting -/
theorem St.less {ρ' : Loc} {obs' : Led} (S : St C ρ obs s) (h1 : ∀ p ∈ ρ', p ∈ ρ) (h2 : obs'.Sublist obs) : St C ρ' obs' s :=
  let ⟨m, hm, hρ⟩ := S.fr
  ⟨S.sc, S.wd, S.kp, ⟨m, hm, fun p hp => hρ p (h1 p hp)⟩, fun p hp => S.ob p (h2.subset hp), (h2.map _).nodup S.nd, S.ce, S.sz⟩
theorem Ex_less {t : Sem Flow} {ρ' : Loc} {obs' : Led} {Q : Flow → Loc → Led → Prop} (h1 : ∀ p ∈ ρ', p ∈ ρ) (h2 : obs'.Sublist obs) (h : Ex C A E ρ' obs' t Q) : Ex C A E ρ obs t Q := fun s S => h s (S.less h1 h2)
end
end Mine
set_option maxRecDepth 100000
set_option Elab.async false
set_option linter.unusedVariables false
namespace Mine
open PySem PySem.W PySem.Spec PyProof.Rows PySem.Calls

noncomputable def fdOf (w : World) (f : Addr) : FuncData := match (KK w).lookup f with
  | some ⟨_, _, .func fd, _⟩ => fd
  | _ => default
noncomputable def fnGood (w : World) (f : Addr) : Bool := match (KK w).lookup f with
  | some ⟨_, _, .func fd, _⟩ => fd.closure.isEmpty && fd.globals == 3 && fd.builtins == 0 && fd.scope.kind == .function && !fd.scope.isCoroutine && !fd.scope.isGenerator && codeIn (KK w) fd.code fd.qualname
  | _ => false
theorem fnGood_ {w : World} {f : Addr} (h : fnGood w f = true) : ∃ c d sl, (KK w).lookup f = some ⟨c, d, .func (fdOf w f), sl⟩ ∧ (fdOf w f).closure = [] ∧ (fdOf w f).globals = mainGlobals ∧ (fdOf w f).builtins = builtinsNs ∧
    (fdOf w f).scope.kind = .function ∧ (fdOf w f).scope.isCoroutine = false ∧ (fdOf w f).scope.isGenerator = false ∧ codeIn (KK w) (fdOf w f).code (fdOf w f).qualname = true := by
  unfold fnGood at h
  split at h
  · rename_i c d fd sl e
    have e2 : fdOf w f = fd := by unfold fdOf; rw [e]
    rw [e2]
    simp only [Bool.and_eq_true, Bool.not_eq_true', beq_iff_eq, List.isEmpty_iff] at h
    obtain ⟨⟨⟨⟨⟨⟨a, b⟩, c'⟩, d'⟩, e'⟩, f'⟩, g⟩ := h
    exact ⟨c, d, sl, e, a, b, c', d', e', f', g⟩
  · cases h

theorem bindL_has {kindOf : Str → Option NameKind} : ∀ (binds : Loc) (m : Str → Option Value), (binds.map (·.1)).Nodup → ∀ x, (∀ v, (x, v) ∈ binds → kindOf x = some .local → bindL kindOf binds m x = some v) ∧ (x ∉ binds.map (·.1) → bindL kindOf binds m x = m x)
  | [], m, _ => fun x => ⟨fun v h => (nomatch h), fun _ => rfl⟩
  | (n, u) :: r, m, hn => fun x => by
    rw [List.map_cons, List.nodup_cons] at hn
    obtain ⟨i1, i2⟩ := bindL_has r (if kindOf n = some .local then fun y => if y = n then some u else m y else m) hn.2 x
    refine ⟨fun v h k => ?_, fun h => ?_⟩
    · rcases List.mem_cons.mp h with e | h
      · cases e
        show bindL kindOf r _ _ = _
        rw [i2 hn.1, if_pos k]; exact if_pos rfl
      · exact i1 v h k
    · rw [List.map_cons, List.mem_cons, not_or] at h
      show bindL kindOf r _ x = _
      rw [i2 h.2]
      split
      · exact if_neg h.1
      · rfl
theorem bindC_has {kindOf : Str → Option NameKind} : ∀ (binds : Loc) (m : Str → Option Value), (binds.map (·.1)).Nodup → ∀ x, (∀ v, (x, v) ∈ binds → kindOf x ≠ some .local → bindC kindOf binds m x = some v) ∧ (x ∉ binds.map (·.1) → bindC kindOf binds m x = m x)
  | [], m, _ => fun x => ⟨fun v h => (nomatch h), fun _ => rfl⟩
  | (n, u) :: r, m, hn => fun x => by
    rw [List.map_cons, List.nodup_cons] at hn
    obtain ⟨i1, i2⟩ := bindC_has r (if kindOf n = some .local then m else fun y => if y = n then some u else m y) hn.2 x
    refine ⟨fun v h k => ?_, fun h => ?_⟩
    · rcases List.mem_cons.mp h with e | h
      · cases e
        show bindC kindOf r _ _ = _
        rw [i2 hn.1, if_neg k]; exact if_pos rfl
      · exact i1 v h k
    · rw [List.map_cons, List.mem_cons, not_or] at h
      show bindC kindOf r _ x = _
      rw [i2 h.2]
      split
      · rfl
      · exact if_neg h.1

def nodB : List Str → Bool
  | [] => true
  | x :: r => !r.contains x && nodB r
theorem nodB_ : ∀ {l : List Str}, nodB l = true → l.Nodup
  | [], _ => List.nodup_nil
  | x :: r, h => by
    unfold nodB at h
    obtain ⟨a, b⟩ := Bool.and_eq_true_iff.mp h
    refine List.nodup_cons.mpr ⟨fun hm => ?_, nodB_ b⟩
    rw [List.contains_iff_mem.mpr hm] at a; cases a
noncomputable abbrev envF (w : World) (f L : Addr) : Env := callEnvC (fdOf w f) L f
def retv : Flow → Value | .ret v => v | _ => .none

theorem St_enter {W : Wc} {s s₁ : Shared} {f : Addr} {binds : Loc} {obs : Led} (hf : fnGood W.w f = true) (w : Wd W s) (ho : Ob s.heap obs) (hn : (binds.map (·.1)).Nodup)
    (hkind : ∀ x ∈ binds, (fdOf W.w f).scope.names.lookup x.1 = some .local ∨ ((fdOf W.w f).scope.names.lookup x.1 = some .cell ∧ ((cellsFrom (s.heap.objs.size + 1) (fdOf W.w f).scope.names []).lookup x.1).isSome = true))
    (x : InCallC s (envF W.w f s.heap.objs.size).locals (bindL (envF W.w f s.heap.objs.size).kindOf binds fun _ => none) (envF W.w f s.heap.objs.size).cells (bindC (envF W.w f s.heap.objs.size).kindOf binds fun _ => none) s₁) :
    St ⟨W, s.heap, envF W.w f s.heap.objs.size⟩ binds obs s₁ ∧ ∀ y c, (envF W.w f s.heap.objs.size).cells.lookup y = some c → s.heap.objs.size ≤ c := by
  obtain ⟨_, _, _, _, _, hgl, hbi, hki, _⟩ := fnGood_ hf
  have hL : (envF W.w f s.heap.objs.size).locals = s.heap.objs.size := rfl
  have hab : ∀ y c, (envF W.w f s.heap.objs.size).cells.lookup y = some c → s.heap.objs.size < c := fun y c hc => x.above y c (mem_of_lookup hc)
  have hk := x.toInCall.keep
  have hle : s.heap.objs.size ≤ s₁.heap.objs.size := by
    have := x.toInCall.ns.lt
    rw [hL] at this
    exact Nat.le_of_lt this
  obtain ⟨h₁, tk, hsame⟩ := x.toInCall.same
  refine ⟨⟨⟨w.big, w.lt, fun _ => by show s.heap.objs.size ≤ (envF W.w f s.heap.objs.size).locals; rw [hL]; exact Nat.le_refl _, by show 203 ≤ (envF W.w f s.heap.objs.size).locals; rw [hL]; exact w.big, fun y c hc => ?_, fun y z c h1 h2 => name_of_addr x.apart (mem_of_lookup h1) (mem_of_lookup h2), hki, hgl, hbi⟩,
    w.keeps hle hk (by rw [hsame]) (by rw [hsame]; exact ⟨rfl, rfl⟩), .of_keep hk, ⟨_, x.toInCall.ns, fun p hp => ⟨fun k => (bindL_has binds _ hn p.1).1 p.2 hp k, fun k => ?_⟩⟩, fun p hp => ?_, ho.2, fun y c hc => ⟨_, x.cell y c hc⟩, hle⟩, fun y c hc => Nat.le_of_lt (hab y c hc)⟩
  · have := hab y c hc
    refine ⟨?_, Nat.le_trans w.big (Nat.le_of_lt this)⟩
    show c ≠ (envF W.w f s.heap.objs.size).locals
    rw [hL]; exact Nat.ne_of_gt this
  · rcases hkind p hp with h | ⟨h, hs⟩
    · exact absurd h k
    · obtain ⟨c, hc⟩ := Option.isSome_iff_exists.mp hs
      exact ⟨c, hc, (bindC_has binds (fun _ => none) hn p.1).1 p.2 hp k ▸ x.cell _ _ hc⟩
  · obtain ⟨e, h203⟩ := ho.1 p hp
    have hlt := Heap.lt_size e
    refine ⟨hk _ _ e, h203, ?_, fun y c hc => ?_⟩
    · show p.1 ≠ (envF W.w f s.heap.objs.size).locals
      rw [hL]; exact Nat.ne_of_lt hlt
    · exact Nat.ne_of_lt (Nat.lt_trans hlt (hab y c hc))

theorem call_peek {prog : Program} {w : World} {A : Around} {s : Shared} {K : Frag} {R : Result → Shared → Prop} {a : Addr} {o : Obj} {fd : FuncData} {body : List Stmt} {vals : List Value} {binds : Loc} (X : K.In s.heap)
    (hroom : A.depth < recursionLimit) (ho : s.heap.get? a = some o) (hdata : o.data = .func fd) (hlim : s.heap.NoLimit) (hcd : s.heap.CodeRec fd.code fd.qualname)
    (hbody : fd.body = .stmts body) (hbind : ∀ S, peek K S (bindArgs fd ⟨vals, []⟩) = some binds) (hclo : fd.closure = [])
    (hkind : ∀ x ∈ binds, fd.scope.names.lookup x.1 = some .local ∨ (fd.scope.names.lookup x.1 = some .cell ∧ ((cellsFrom (s.heap.objs.size + 1) fd.scope.names []).lookup x.1).isSome = true))
    (h : ∀ s₁, InCallC s (callEnvC fd s.heap.objs.size a).locals (bindL (callEnvC fd s.heap.objs.size a).kindOf binds fun _ => none) (callEnvC fd s.heap.objs.size a).cells
        (bindC (callEnvC fd s.heap.objs.size a).kindOf binds fun _ => none) s₁ →
      wpAny (model prog w) (A.deeper (callEnvC fd s.heap.objs.size a)) (execs body (callEnvC fd s.heap.objs.size a)) (fun f s' => R (.ok (.ret (match f with | .ret v => v | _ => .none))) s')
        (fun e s' => wpAny (model prog w) (A.deeper (callEnvC fd s.heap.objs.size a)) (leaving (callEnvC fd s.heap.objs.size a) e) (fun _ s'' => R (.error e) s'') (fun e' s'' => R (.error e') s'') s') s₁)
    (hco : fd.scope.isCoroutine = false) (hgen : fd.scope.isGenerator = false) (hk : fd.scope.kind = .function) :
    codeAny (model prog w) A (.call (.ref a) ⟨vals, []⟩) R s := by
  refine codeAny_call_function hroom ho hdata hco hgen hbody hcd ?_
  rw [hclo]
  refine (Looks.of_peek X (hbind _)).here (wpAny_newFunctionEnv_cells hk hkind fun env he s' x => ?_)
  subst he
  exact ⟨hlim.keeps x.toInCall.keep, codeAny_func (h s' x)⟩

/-- a call's contract, that it may raise -/
def ClE (W : Wc) (A : Around) (f : Value) (vs : List Value) (obs : Led) (Q : Value → Prop) (X : Shared → Value → Shared → Prop) : Prop :=
  ∀ s, Wd W s → Ob s.heap obs → wpAny (model PR W.w) A (call f vs) (fun v s' => Wd W s' ∧ Kp s.heap s'.heap ∧ s.heap.objs.size ≤ s'.heap.objs.size ∧ Q v) (X s) s

theorem ClE_of {W : Wc} {A : Around} {f : Addr} {vs : List Value} {obs : Led} {P : Value → Prop} {X : Shared → Value → Shared → Prop} {body : List Stmt} {binds : Loc} (EB : Shared → Value → Shared → Prop) (hroom : A.depth < recursionLimit)
    (h : ∀ (s : Shared), Wd W s → Ob s.heap obs → (∀ y c, (envF W.w f s.heap.objs.size).cells.lookup y = some c → s.heap.objs.size ≤ c) →
      Ex ⟨W, s.heap, envF W.w f s.heap.objs.size⟩ (A.deeper (envF W.w f s.heap.objs.size)) (EB s) binds obs (execs body (envF W.w f s.heap.objs.size)) (fun fl _ _ => P (retv fl)))
    (hE : ∀ s e s', EB s e s' → wpAny (model PR W.w) (A.deeper (envF W.w f s.heap.objs.size)) (leaving (envF W.w f s.heap.objs.size) e) (fun _ s'' => X s e s'') (fun e' s'' => X s e' s'') s')
    (hf : fnGood W.w f = true := by kernel_rfl!) (hbody : (fdOf W.w f).body = .stmts body := by with_unfolding_all rfl)
    (hbind : ∀ S, peek (KK W.w) S (bindArgs (fdOf W.w f) ⟨vs, []⟩) = some binds := by intro S; kernel_rfl!)
    (hkind : (binds.all fun y => (fdOf W.w f).scope.names.lookup y.1 == some .local || (fdOf W.w f).scope.names.lookup y.1 == some .cell) = true := by kernel_rfl!)
    (hn : nodB (binds.map (·.1)) = true := by kernel_rfl!) : ClE W A (.ref f) vs obs P X := by
  intro s w ho
  obtain ⟨c, d, sl, hl, hclo, hgl, hbi, hki, hco, hge, hci⟩ := fnGood_ hf
  refine wpAny_call (call_peek w.k hroom (w.k _ _ hl) rfl w.lim (codeRec_of w.k hci) hbody hbind hclo (kindsX hkind _) (fun s₁ x => ?_) hco hge hki)
  obtain ⟨S, hcells⟩ := St_enter hf w ho (nodB_ hn) (kindsX hkind _) x
  refine wpAny_mono (h s w ho hcells s₁ S) (fun fl s2 ⟨ρ2, o2, S2, q⟩ => ?_) (fun e s' q => hE s e s' q)
  exact ⟨S2.wd, S2.kp, S2.sz, q⟩

theorem Cl_of {W : Wc} {A : Around} {E : Value → Shared → Prop} {f : Addr} {vs : List Value} {obs : Led} {P : Value → Prop} {body : List Stmt} {binds : Loc} (hroom : A.depth < recursionLimit)
    (h : ∀ (he : Heap) (L : Addr), (∀ y c, (envF W.w f L).cells.lookup y = some c → he.objs.size ≤ c) →
      Ex ⟨W, he, envF W.w f L⟩ (A.deeper (envF W.w f L)) Fls binds obs (execs body (envF W.w f L)) (fun fl _ _ => P (retv fl)))
    (hf : fnGood W.w f = true := by kernel_rfl!) (hbody : (fdOf W.w f).body = .stmts body := by with_unfolding_all rfl)
    (hbind : ∀ S, peek (KK W.w) S (bindArgs (fdOf W.w f) ⟨vs, []⟩) = some binds := by intro S; kernel_rfl!)
    (hkind : (binds.all fun y => (fdOf W.w f).scope.names.lookup y.1 == some .local || (fdOf W.w f).scope.names.lookup y.1 == some .cell) = true := by kernel_rfl!)
    (hn : nodB (binds.map (·.1)) = true := by kernel_rfl!) : Cl W A E (.ref f) vs obs P :=
  ClE_of (EB := fun _ => Fls) (X := fun _ => E) hroom (fun s w ho hc => h s.heap s.heap.objs.size hc) (fun _ _ _ q => q.elim) hf hbody hbind hkind hn
end Mine
set_option maxRecDepth 100000
set_option Elab.async false
set_option linter.unusedVariables false
namespace Mine
open PySem PySem.W PySem.Spec PyProof.Rows PySem.Calls

/-- an object that is a list of these items -/
def LsO (o : Obj) (vs : List Value) : Prop := o.cls = .type "list" ∧ ∃ n, o.data = .seq vs.toArray n
def lsO (vs : List Value) (n : Nat) : Obj := { cls := .type "list", data := .seq vs.toArray n }
theorem lsO_is (vs : List Value) (n : Nat) : LsO (lsO vs n) vs := ⟨rfl, n, rfl⟩
theorem LsO.isList {h : Heap} {a : Addr} {o : Obj} {vs : List Value} (x : LsO o vs) (e : h.get? a = some o) : h.IsList a vs.toArray := ⟨o, e, x.1, x.2⟩

section
variable {C : Cx} {A : Around} {E : Value → Shared → Prop} {ρ : Loc} {obs : Led}

theorem Ev_sub {v i : Expr} {pos : Pos} {Q : Value → Led → Prop} (h : Ev C A E ρ obs v fun a o => Ev C A E ρ o i fun b o' => Tr C A E ρ o' (subscriptTail v i a b) Q) : Ev C A E ρ obs (.Subscript v i pos) Q :=
  fun s hs => Subscript_ (wpAny_mono (h s hs) (fun _ s1 ⟨_, h1, q1⟩ => wpAny_mono (q1 s1 h1) (fun _ s2 ⟨_, h2, q2⟩ => q2 s2 h2) fun _ _ x => x) fun _ _ x => x)
theorem Tr_item {v i : Expr} {a : Addr} {o : Obj} {vs : List Value} {k : Int} {u : Tok} {x : Value} {Q : Value → Led → Prop} (ho : (a, o) ∈ obs) (hl : LsO o vs) (h0 : 0 ≤ k) (h1 : k < 2 ^ 63) (hx : vs[k.toNat]? = some x) (h : Q x obs)
    (hs : subscripted i false (.ref a) (.int k u) = operate [.ref a, .int k u] (getItem (.ref a) (.int k u)) := by with_unfolding_all rfl) : Tr C A E ρ obs (subscriptTail v i (.ref a) (.int k u)) Q := fun s S =>
  have hL := hl.isList (S.ob _ ho).1
  tail_any hL.typeIs slot_list_getitem.lookup (wpAny_getItem_list hL h0 h1 (by simpa using hx) ⟨obs, S, h⟩) hs
theorem Tr_len {a : Addr} {o : Obj} {vs : List Value} {Q : Value → Led → Prop} (ho : (a, o) ∈ obs) (hl : LsO o vs) (h1 : (vs.length : Int) < 2 ^ 63) (h : ∀ t, Q (.int vs.length t) obs) : Tr C A E ρ obs (call (.builtin "len") [.ref a]) Q := fun s S =>
  Calls.call_len_list (hl.isList (S.ob _ ho).1) (by simpa using h1) (by simpa using ⟨obs, (S.tok _).tok _, h _⟩)
theorem Ev_callB {x : Str} {xp pos : Pos} {e : Expr} {r : List Expr} {id : String} {Q : Value → Led → Prop} (hb : bootBuiltins x = some (.builtin id))
    (h : Ag C A E ρ obs pos (e :: r) fun vs o => Tr C A E ρ o (call (.builtin id) vs) Q) (hv : gvar C.W.w x = none := by kernel_rfl!) (hk : C.env.kindOf x = some .globalImplicit := by kernel_rfl!)
    (hd : (x == ("__debug__" : Str) || x == ("__name__" : Str)) = false := by decide +kernel) (he : starEach (e :: r) C.env = (false, eval e C.env) :: starEach r C.env := by with_unfolding_all rfl)
    (hp : (backTo pos (starEach r C.env)).any (·.1) = false := by with_unfolding_all rfl) : Ev C A E ρ obs (.Call (.Name x xp) (e :: r) [] pos) Q := fun s hs =>
  Call_ (wpAny_mono (Ev_bi (C := C) (A := A) (E := E) (ρ := ρ) (obs := obs) (Q := fun v o => v = .builtin id ∧ o = obs) hb ⟨rfl, rfl⟩ hv hk hd s hs) (fun v s1 ⟨o, h1, q1⟩ => by
    obtain ⟨rfl, rfl⟩ := q1
    exact PyProof.Rows.callWith_builtin1 (wpAny_mono (h s1 h1) (fun vs s2 ⟨o2, h2, q2⟩ => q2 s2 h2) fun _ _ x => x) he hp) fun _ _ x => x)
theorem Ev_callT {x : Str} {xp pos : Pos} {e : Expr} {r : List Expr} {T : String} {Q : Value → Led → Prop} (hb : bootBuiltins x = some (.type T))
    (h : Ag C A E ρ obs pos (e :: r) fun vs o => Tr C A E ρ o (call (.type T) vs) Q) (hv : gvar C.W.w x = none := by kernel_rfl!) (hk : C.env.kindOf x = some .globalImplicit := by kernel_rfl!)
    (hd : (x == ("__debug__" : Str) || x == ("__name__" : Str)) = false := by decide +kernel) (he : starEach (e :: r) C.env = (false, eval e C.env) :: starEach r C.env := by with_unfolding_all rfl)
    (hp : (backTo pos (starEach r C.env)).any (·.1) = false := by with_unfolding_all rfl) : Ev C A E ρ obs (.Call (.Name x xp) (e :: r) [] pos) Q := fun s hs =>
  Call_ (wpAny_mono (Ev_bi (C := C) (A := A) (E := E) (ρ := ρ) (obs := obs) (Q := fun v o => v = .type T ∧ o = obs) hb ⟨rfl, rfl⟩ hv hk hd s hs) (fun v s1 ⟨o, h1, q1⟩ => by
    obtain ⟨rfl, rfl⟩ := q1
    exact PyProof.Rows.callWith_type1 (wpAny_mono (h s1 h1) (fun vs s2 ⟨o2, h2, q2⟩ => q2 s2 h2) fun _ _ x => x) he hp) fun _ _ x => x)
end

def mix : Int := 222746560949354276391051289458670502401
def number (ns : List Int) (p : Int) : Int := if p < ns.length then ns.getD p.toNat 0 else mix * (p + 1)


theorem b_len : bootBuiltins (Str.ofString "len") = some (.builtin "len") := by decide +kernel
theorem b_isinstance : bootBuiltins (Str.ofString "isinstance") = some (.builtin "isinstance") := by decide +kernel
theorem b_sum : bootBuiltins (Str.ofString "sum") = some (.builtin "sum") := by decide +kernel
theorem b_range : bootBuiltins (Str.ofString "range") = some (.type "range") := by decide +kernel
theorem b_list : bootBuiltins (Str.ofString "list") = some (.type "list") := by decide +kernel
theorem b_set : bootBuiltins (Str.ofString "set") = some (.type "set") := by decide +kernel
theorem b_bytes : bootBuiltins (Str.ofString "bytes") = some (.type "bytes") := by decide +kernel
theorem b_zip : bootBuiltins (Str.ofString "zip") = some (.type "zip") := by decide +kernel
theorem b_int : bootBuiltins (Str.ofString "int") = some (.type "int") := by decide +kernel

local macro_rules | `(tactic| walk_at "m") => `(tactic| first
  | with_reducible exact List.mem_cons_self
  | with_reducible exact setL_here
  | (with_reducible refine setL_there ?_ ?_; (case refine_2 => decide +kernel); walk_at "m")
  | (with_reducible refine List.mem_cons_of_mem _ ?_; walk_at "m"))

theorem mix_bits : Builtin.Int.intBits mix ≤ 128 := by decide +kernel
theorem number_bits {ns : List Int} {p : Int} (hb : ∀ x ∈ ns, Builtin.Int.intBits x ≤ 2 ^ 20) (h0 : 0 ≤ p) (h1 : p < 2 ^ 40) : Builtin.Int.intBits (number ns p) ≤ 2 ^ 20 := by
  unfold number
  split
  · rename_i h
    have hlt : p.toNat < ns.length := by omega
    rw [List.getD_eq_getElem?_getD, List.getElem?_eq_getElem hlt]
    exact hb _ (List.getElem_mem hlt)
  · have e : mix * (p + 1) = ((mix.toNat * (p + 1).toNat : Nat) : Int) := by
      have : mix = (mix.toNat : Int) := by decide +kernel
      have h2 : (p + 1) = ((p + 1).toNat : Int) := by omega
      rw [Int.natCast_mul, ← this, ← h2]
    have hm : mix.toNat < 2 ^ 128 := by decide +kernel
    have hp : (p + 1).toNat < 2 ^ 41 := by omega
    have : mix.toNat * (p + 1).toNat < 2 ^ 169 := by
      have := Nat.mul_lt_mul'' hm hp
      rwa [← Nat.pow_add] at this
    rw [e]
    unfold Builtin.Int.intBits
    split
    · omega
    · rename_i h0
      have hne : mix.toNat * (p + 1).toNat ≠ 0 := fun h => by rw [h] at h0; exact h0 rfl
      have := (Nat.log2_lt hne).mpr this
      simp only [Int.natAbs_natCast]
      omega

theorem c_number {W : Wc} {A : Around} {E : Value → Shared → Prop} {a : Addr} {o : Obj} {vs : List Value} {ns : List Int} {p : Int} {t : Tok} (hroom : A.depth < recursionLimit) (hl : LsO o vs) (hi : IntsAre vs ns) (hlen : ns.length < 2 ^ 40) (h0 : 0 ≤ p) (h1 : p < 2 ^ 40) :
    Cl W A E (.ref 162) [.ref a, .int p t] [(a, o)] (fun v => ∃ t, v = .int (number ns p) t) := by
  refine Cl_of (binds := [("script", .ref a), ("place", .int p t)]) hroom (fun he L hc => ?_)
  with_reducible refine Ex_cons (Ex_ret (Ev_if (Ts_cmp (Ev_name (by walk_at "m") (Ev_callB b_len (Ag_cons (Ev_name (by walk_at "m") (Ag_nil ?_))))))))
  with_reducible refine Tr_len List.mem_cons_self hl (by rw [hi.length]; omega) fun t => ?_
  with_reducible refine Tr_lt (Tr_bool ?_)
  rw [hi.length]
  by_cases h : p < ns.length
  · rw [decide_eq_true h, if_pos rfl]
    with_reducible refine Ev_sub (Ev_name (by walk_at "m") (Ev_name (by walk_at "m") ?_))
    obtain ⟨x, t', hx, hv⟩ : ∃ x t', vs[p.toNat]? = some (.int x t') ∧ number ns p = x := by
      have hlt : p.toNat < ns.length := by omega
      obtain ⟨t', ht'⟩ := hi.get p.toNat ns[p.toNat] (List.getElem?_eq_getElem hlt)
      refine ⟨_, t', ht', ?_⟩
      unfold number
      rw [if_pos h, List.getD_eq_getElem?_getD, List.getElem?_eq_getElem hlt]; rfl
    with_reducible refine Tr_item List.mem_cons_self hl h0 (by omega) hx ?_
    exact ⟨t', by rw [hv]; rfl⟩
  · rw [decide_eq_false h, if_neg Bool.false_ne_true]
    with_reducible refine Ev_bin (Ev_glob (v := .int mix 412) (by kernel_rfl!) ?_)
    with_reducible refine Ev_bin (Ev_name (by walk_at "m") (Ev_int fun t => Tr_add fun t => Tr_mul ?_ fun t => ?_))
    · refine .of_right ?_
      unfold Builtin.Int.intBits
      split
      · omega
      · rename_i hz
        have hne : (p + 1).natAbs ≠ 0 := by
          have : p + 1 ≠ 0 := by simpa using hz
          omega
        have : (p + 1).natAbs.log2 < 41 := (Nat.log2_lt hne).mpr (by omega)
        omega
    · exact ⟨t, by show Value.int _ _ = _; unfold number; rw [if_neg h]⟩
end Mine
set_option maxRecDepth 100000
set_option Elab.async false
set_option linter.unusedVariables false
namespace Mine
open PySem PySem.W PySem.Spec PyProof.Rows PySem.Calls

def Sb (a b : Led) : Prop := ∃ l, (a ++ l).Perm b
theorem Sb.refl (a : Led) : Sb a a := ⟨[], by simp⟩
theorem Sb.skip {a b : Led} {p : Addr × Obj} (h : Sb a b) : Sb a (p :: b) := let ⟨l, h⟩ := h; ⟨p :: l, List.perm_middle.trans (h.cons p)⟩
theorem Sb.cons {a b : Led} {p : Addr × Obj} (h : Sb a b) : Sb (p :: a) (p :: b) := let ⟨l, h⟩ := h; ⟨l, by simpa using h.cons p⟩
theorem Sb.mem {a b : Led} (h : Sb a b) {p : Addr × Obj} (hp : p ∈ a) : p ∈ b := let ⟨l, h⟩ := h; h.mem_iff.mp (List.mem_append_left _ hp)
theorem Sb.trans {a b c : Led} (h : Sb a b) (k : Sb b c) : Sb a c := by
  obtain ⟨l, h⟩ := h
  obtain ⟨m, k⟩ := k
  exact ⟨l ++ m, by rw [← List.append_assoc]; exact (h.append_right m).trans k⟩
theorem St.sb {C : Cx} {ρ ρ' : Loc} {obs obs' : Led} {s : Shared} (S : St C ρ obs s) (h1 : ∀ p ∈ ρ', p ∈ ρ) (h2 : Sb obs' obs) : St C ρ' obs' s :=
  let ⟨l, h⟩ := h2
  (S.perm h.symm).less h1 (List.sublist_append_left _ _)

section
variable {C : Cx} {A : Around} {E : Value → Shared → Prop} {ρ : Loc} {obs : Led}

theorem Ex_sb {t : Sem Flow} {ρ' : Loc} {obs' : Led} {Q : Flow → Loc → Led → Prop} (h1 : ∀ p ∈ ρ', p ∈ ρ) (h2 : Sb obs' obs) (h : Ex C A E ρ' obs' t Q) : Ex C A E ρ obs t Q := fun s S => h s (S.sb h1 h2)

theorem Ex_while {test : Expr} {body : List Stmt} {pos : Pos} {Q : Flow → Loc → Led → Prop} (I : Nat → Loc → Led → Prop) (n : Nat) (h0 : I n ρ obs)
    (turn : ∀ n ρ o, I n ρ o → Ts C A Fls ρ o test fun b o1 => if b then Ex C A Fls ρ o1 (execs body C.env) (fun f ρ' o' => match f with | .next => ∃ m, m < n ∧ I m ρ' o' | .cont => ∃ m, m < n ∧ I m ρ' o' | .brk => Q .next ρ' o' | .ret v => Q (.ret v) ρ' o') else Q .next ρ o1) :
    Ex C A E ρ obs (exec (.While test body [] pos) C.env) Q := fun s S => by
  refine wpAny_While (codeAny_mono (codeAny_whileLoop (R := fun r s' => match r with | .ok f => ∃ ρ' o', St C ρ' o' s' ∧ Q f ρ' o' | .error _ => False) (fun n s => ∃ ρ o, St C ρ o s ∧ I n ρ o) (fun n s ⟨ρ, o, S, hI⟩ => ?_) n ⟨ρ, obs, S, h0⟩) (fun r s' h => ?_))
  · refine wpAny_mono (turn n ρ o hI s S) (fun b s1 ⟨o1, S1, q⟩ => ?_) (fun _ _ x => x.elim)
    cases b with
    | true =>
      rw [if_pos rfl] at q ⊢
      refine wpAny_mono (q s1 S1) (fun f s2 ⟨ρ2, o2, S2, q2⟩ => ?_) (fun _ _ x => x.elim)
      cases f with
      | next => obtain ⟨m, hm, hI⟩ := q2; exact ⟨m, hm, ρ2, o2, S2, hI⟩
      | cont => obtain ⟨m, hm, hI⟩ := q2; exact ⟨m, hm, ρ2, o2, S2, hI⟩
      | brk => exact ⟨ρ2, o2, S2, q2⟩
      | ret v => exact ⟨ρ2, o2, S2, q2⟩
    | false =>
      rw [if_neg Bool.false_ne_true] at q ⊢
      exact wpAny_execs_nil ⟨ρ, o1, S1, q⟩
  · cases r with
    | ok f => exact h
    | error e => exact h.elim

structure Nx (C : Cx) (A : Around) (it : Addr) (itP : Nat → Obj → Prop) (n : Nat) (val : Nat → Value → Prop) (need : Led) : Prop where
  item : ∀ i ρ o ob, i < n → (∀ p ∈ need, p ∈ o) → itP i ob → Tr C A Fls ρ ((it, ob) :: o) (pyNext (.ref it)) (fun r o' => ∃ v ob', r = some v ∧ val i v ∧ itP (i + 1) ob' ∧ o' = (it, ob') :: o)
  done : ∀ ρ o ob, (∀ p ∈ need, p ∈ o) → itP n ob → Tr C A Fls ρ ((it, ob) :: o) (pyNext (.ref it)) (fun r o' => r = none ∧ o' = o)

/-- what the end of a turn must give -/
def Turn (Q : Flow → Loc → Led → Prop) (it : Addr × Obj) (J : Loc → Led → Prop) (f : Flow) (ρ' : Loc) (o' : Led) : Prop :=
  match f with
  | .ret v => Q (.ret v) ρ' o'
  | .brk => Q .next ρ' o'
  | _ => ∃ o'', Sb (it :: o'') o' ∧ J ρ' o''

theorem loop_nx {it : Addr} {itP : Nat → Obj → Prop} {n : Nat} {val : Nat → Value → Prop} {need : Led} {x : Str} {xp : Pos} {body : List Stmt} {Q : Flow → Loc → Led → Prop} {ob : Obj} (N : Nx C A it itP n val need) (I : Nat → Loc → Led → Prop)
    (hI : ∀ i ρ o, I i ρ o → ∀ p ∈ need, p ∈ o) (h0 : I 0 ρ obs) (hob : itP 0 ob) (hset : ∀ (A : Around) (v : Value) (ρ : Loc) (o : Led) s, St C ρ o s → wpAny (model PR C.W.w) A (storeName C.env x v) (fun _ s' => ∃ ρ' o', St C ρ' o' s' ∧ o' = o ∧ ρ' = setL x v ρ) Fls s)
    (turn : ∀ i ρ o v ob, i < n → val i v → itP (i + 1) ob → I i ρ o → Ex C A Fls (setL x v ρ) ((it, ob) :: o) (execs body C.env) (Turn Q (it, ob) (I (i + 1))))
    (done : ∀ ρ o, I n ρ o → Q .next ρ o) : ∀ s, St C ρ ((it, ob) :: obs) s →
    codeAny (model PR C.W.w) A (.forLoop (.Name x xp) (.ref it) body [] C.env) (fun r s' => match r with | .ok f => ∃ ρ' o', St C ρ' o' s' ∧ Q f ρ' o' | .error _ => False) s := fun s S => by
  refine codeAny_forLoop (R := fun r s' => match r with | .ok f => ∃ ρ' o', St C ρ' o' s' ∧ Q f ρ' o' | .error _ => False) (fun k s => ∃ i ρ o ob, k = n + 1 - i ∧ i ≤ n ∧ itP i ob ∧ St C ρ ((it, ob) :: o) s ∧ I i ρ o) (fun k s ⟨i, ρ, o, ob, hk', hi, hob, S, hi'⟩ => ?_) (n + 1) ⟨0, ρ, obs, ob, rfl, Nat.zero_le _, hob, S, h0⟩
  by_cases hlt : i < n
  · refine wpAny_mono (N.item i ρ o ob hlt (hI i ρ o hi') hob s S) (fun r s1 ⟨o1, S1, v, ob', hr, hv, hob', ho1⟩ => ?_) (fun _ _ x => x.elim)
    subst hr ho1
    refine wpAny_assign_Name (wpAny_mono (hset _ v ρ ((it, ob') :: o) s1 S1) (fun _ s2 ⟨ρ2, o2, S2, q2⟩ => ?_) (fun _ _ x => x.elim))
    obtain ⟨rfl, rfl⟩ := q2
    refine wpAny_mono (turn i ρ o v ob' hlt hv hob' hi' s2 S2) (fun f s3 ⟨ρ3, o3, S3, q3⟩ => ?_) (fun _ _ x => x.elim)
    have go : (∃ o'', Sb ((it, ob') :: o'') o3 ∧ I (i + 1) ρ3 o'') → ∃ m, m < k ∧ ∃ i ρ o ob, m = n + 1 - i ∧ i ≤ n ∧ itP i ob ∧ St C ρ ((it, ob) :: o) s3 ∧ I i ρ o := fun ⟨o'', hs, hI'⟩ =>
      ⟨n + 1 - (i + 1), by omega, i + 1, ρ3, o'', ob', rfl, hlt, hob', S3.sb (fun _ h => h) hs, hI'⟩
    cases f with
    | next => exact go q3
    | cont => exact go q3
    | brk => exact ⟨ρ3, o3, S3, q3⟩
    | ret v => exact ⟨ρ3, o3, S3, q3⟩
  · have hin : i = n := Nat.le_antisymm hi (Nat.le_of_not_lt hlt)
    subst hin
    refine wpAny_mono (N.done ρ o ob (hI _ ρ o hi') hob s S) (fun r s1 ⟨o1, S1, hr, ho1⟩ => ?_) (fun _ _ x => x.elim)
    subst hr ho1
    exact wpAny_execs_nil ⟨ρ, _, S1, done ρ _ hi'⟩

/-- a for statement: its iterable, its iterator, its loop -/
theorem Ex_for0 {x : Str} {xp pos : Pos} {iter : Expr} {body : List Stmt} {Q : Flow → Loc → Led → Prop}
    (h : Ev C A E ρ obs iter fun v o1 => Tr C A E ρ o1 (pyIter v) fun it o2 => ∃ a ob o3 itP n val need, it = .ref a ∧ o2 = (a, ob) :: o3 ∧ Nx C A a itP n val need ∧ itP 0 ob ∧ ∃ I : Nat → Loc → Led → Prop,
      (∀ i ρ o, I i ρ o → ∀ p ∈ need, p ∈ o) ∧ I 0 ρ o3 ∧
      (∀ i ρ o v ob, i < n → val i v → itP (i + 1) ob → I i ρ o → Ex C A Fls (setL x v ρ) ((a, ob) :: o) (execs body C.env) (Turn Q (a, ob) (I (i + 1)))) ∧ ∀ ρ o, I n ρ o → Q .next ρ o)
    (hset : ∀ (A : Around) (v : Value) (ρ : Loc) (o : Led) s, St C ρ o s → wpAny (model PR C.W.w) A (storeName C.env x v) (fun _ s' => ∃ ρ' o', St C ρ' o' s' ∧ o' = o ∧ ρ' = setL x v ρ) Fls s) (hs : ∀ x, foldedSetIterable iter C.env x = pure x) : Ex C A E ρ obs (exec (.For (.Name x xp) iter body [] pos) C.env) Q := fun s S => by
  refine wpAny_For (wpAny_mono (h s S) (fun v s1 ⟨o1, S1, q1⟩ => wpAny_mono (q1 s1 S1) (fun it s2 ⟨o2, S2, q2⟩ => ?_) fun _ _ x => x) fun _ _ x => x) hs
  obtain ⟨a, ob, o3, itP, n, val, need, rfl, rfl, N, hob, I, hI, h0, turn, done⟩ := q2
  refine codeAny_mono (loop_nx N I hI h0 hob hset turn done s2 S2) (fun r s' h => ?_)
  cases r with
  | ok f => exact h
  | error e => exact h.elim

theorem Ex_for {x : Str} {xp pos : Pos} {iter : Expr} {body : List Stmt} {Q : Flow → Loc → Led → Prop}
    (h : Ev C A E ρ obs iter fun v o1 => Tr C A E ρ o1 (pyIter v) fun it o2 => ∃ a ob o3 itP n val need, it = .ref a ∧ o2 = (a, ob) :: o3 ∧ Nx C A a itP n val need ∧ itP 0 ob ∧ ∃ I : Nat → Loc → Led → Prop,
      (∀ i ρ o, I i ρ o → ∀ p ∈ need, p ∈ o) ∧ I 0 ρ o3 ∧
      (∀ i ρ o v ob, i < n → val i v → itP (i + 1) ob → I i ρ o → Ex C A Fls (setL x v ρ) ((a, ob) :: o) (execs body C.env) (Turn Q (a, ob) (I (i + 1)))) ∧ ∀ ρ o, I n ρ o → Q .next ρ o)
    (hk : C.env.kindOf x = some .local := by kernel_rfl!) (hg : C.env.scope.names.lookup (Str.ofString ".0") = none := by kernel_rfl!) (hs : ∀ x, foldedSetIterable iter C.env x = pure x := by intro _; with_unfolding_all rfl) : Ex C A E ρ obs (exec (.For (.Name x xp) iter body [] pos) C.env) Q :=
  Ex_for0 h (fun A v ρ o s S => Ex_setL hk hg ⟨rfl, rfl⟩ s S) hs
/-- the same with a cell for its name -/
theorem Ex_forC {x : Str} {xp pos : Pos} {iter : Expr} {body : List Stmt} {Q : Flow → Loc → Led → Prop} (ho : ∀ c, C.env.cells.lookup x = some c → C.he.objs.size ≤ c)
    (h : Ev C A E ρ obs iter fun v o1 => Tr C A E ρ o1 (pyIter v) fun it o2 => ∃ a ob o3 itP n val need, it = .ref a ∧ o2 = (a, ob) :: o3 ∧ Nx C A a itP n val need ∧ itP 0 ob ∧ ∃ I : Nat → Loc → Led → Prop,
      (∀ i ρ o, I i ρ o → ∀ p ∈ need, p ∈ o) ∧ I 0 ρ o3 ∧
      (∀ i ρ o v ob, i < n → val i v → itP (i + 1) ob → I i ρ o → Ex C A Fls (setL x v ρ) ((a, ob) :: o) (execs body C.env) (Turn Q (a, ob) (I (i + 1)))) ∧ ∀ ρ o, I n ρ o → Q .next ρ o)
    (hk : C.env.kindOf x = some .cell := by kernel_rfl!) (hsome : (C.env.cells.lookup x).isSome = true := by kernel_rfl!) (hs : ∀ x, foldedSetIterable iter C.env x = pure x := by intro _; with_unfolding_all rfl) : Ex C A E ρ obs (exec (.For (.Name x xp) iter body [] pos) C.env) Q :=
  Ex_for0 h (fun A v ρ o s S => Ex_setC hk ho hsome ⟨rfl, rfl⟩ s S) hs

/-! the iterators -/
def LiP (l : Addr) (i : Nat) (o : Obj) : Prop := o.cls = .type "list_iterator" ∧ o.data = .fields #[.ref l, .int i 0]
def TiP (l : Addr) (i : Nat) (o : Obj) : Prop := o.cls = .type "tuple_iterator" ∧ o.data = .fields #[.ref l, .int i 0]
def TpO (o : Obj) (vs : List Value) : Prop := o.cls = .type "tuple" ∧ ∃ n, o.data = .seq vs.toArray n

theorem St.szx {s : Shared} {it : Addr} {ob : Obj} {o : Led} {h' : Heap} (S : St C ρ ((it, ob) :: o) s) (hg : C.env.scope.names.lookup (Str.ofString ".0") = none) (k : Heap.ExtBut it s.heap h') : C.he.objs.size ≤ h'.objs.size := by
  obtain ⟨m, hm, _⟩ := S.fr
  have hm' : h'.Ns C.env.locals m := let ⟨o, es, ep, e, r⟩ := hm; ⟨o, es, ep, k _ _ (Ne.symm (S.ob _ List.mem_cons_self).2.2.1) e, r⟩
  exact Nat.le_trans (S.sc.gx hg) (Nat.le_of_lt hm'.lt)
theorem nx_list {it l : Addr} {ol : Obj} {vs : List Value} (hh : A.handled = none) (hit : C.he.objs.size ≤ it) (hl : LsO ol vs) (hg : C.env.scope.names.lookup (Str.ofString ".0") = none := by kernel_rfl!) : Nx C A it (LiP l) vs.length (fun i v => vs[i]? = some v) [(l, ol)] where
  item := fun i ρ o ob hi hn hob s S => by
    have hL := hl.isList (S.ob _ (List.mem_cons_of_mem _ (hn _ List.mem_cons_self))).1
    have e := (S.ob _ List.mem_cons_self).1
    refine wpAny_pyNext_list_item (x := vs[i]) ⟨ob, e, hob⟩ hL (by simp [hi]) (fun h' ⟨o', e', hp⟩ hs => ⟨_, S.upd hit hs e', vs[i], o', rfl, by simp [hi], hp, rfl⟩)
  done := fun ρ o ob hn hob s S => by
    have hL := hl.isList (S.ob _ (List.mem_cons_of_mem _ (hn _ List.mem_cons_self))).1
    have e := (S.ob _ List.mem_cons_self).1
    exact wpAny_pyNext_list_end hh ⟨ob, e, hob⟩ hL (by simp) (fun h' hs => ⟨_, S.ext hit hs (S.szx hg hs), rfl, rfl⟩)
theorem nx_tuple {it l : Addr} {ol : Obj} {vs : List Value} (hh : A.handled = none) (hit : C.he.objs.size ≤ it) (hl : TpO ol vs) (hg : C.env.scope.names.lookup (Str.ofString ".0") = none := by kernel_rfl!) : Nx C A it (TiP l) vs.length (fun i v => vs[i]? = some v) [(l, ol)] where
  item := fun i ρ o ob hi hn hob s S => by
    have hL : s.heap.IsTuple l vs.toArray := ⟨_, (S.ob _ (List.mem_cons_of_mem _ (hn _ List.mem_cons_self))).1, hl⟩
    have e := (S.ob _ List.mem_cons_self).1
    refine wpAny_pyNext_tuple_item (x := vs[i]) ⟨ob, e, hob⟩ hL (by simp [hi]) (fun h' ⟨o', e', hp⟩ hs => ⟨_, S.upd hit hs e', vs[i], o', rfl, by simp [hi], hp, rfl⟩)
  done := fun ρ o ob hn hob s S => by
    have hL : s.heap.IsTuple l vs.toArray := ⟨_, (S.ob _ (List.mem_cons_of_mem _ (hn _ List.mem_cons_self))).1, hl⟩
    have e := (S.ob _ List.mem_cons_self).1
    exact wpAny_pyNext_tuple_end hh ⟨ob, e, hob⟩ hL (by simp) (fun h' hs => ⟨_, S.ext hit hs (S.szx hg hs), rfl, rfl⟩)
def RiP (n : Nat) (i : Nat) (o : Obj) : Prop := o = { cls := .type "range_iterator", dict := none, data := .fields #[rawInt i, rawInt ((n : Int) - i), rawInt 1], slots := #[] }
theorem nx_range {it : Addr} {n : Nat} (hh : A.handled = none) (hit : C.he.objs.size ≤ it) (hg : C.env.scope.names.lookup (Str.ofString ".0") = none := by kernel_rfl!) : Nx C A it (RiP n) n (fun i v => ∃ t, v = .int i t) [] where
  item := fun i ρ o ob hi hn hob s S => by
    have e := (S.ob _ List.mem_cons_self).1
    rw [hob] at e
    refine wpAny_pyNext_range_item e (by omega) (fun h' hr hs => ⟨_, (S.upd hit hs hr).tok _, _, _, rfl, ⟨_, rfl⟩, ?_, rfl⟩)
    unfold RiP
    have e1 : ((i : Int) + 1) = ((i + 1 : Nat) : Int) := by omega
    have e2 : ((n : Int) - i - 1) = (n : Int) - ((i + 1 : Nat) : Int) := by omega
    rw [e1, e2]
  done := fun ρ o ob hn hob s S => by
    have e := (S.ob _ List.mem_cons_self).1
    rw [hob] at e
    exact wpAny_pyNext_range_end hh e (by omega) (fun h' hs => ⟨_, S.ext hit hs (S.szx hg hs), rfl, rfl⟩)

theorem Tr_iter_list {l : Addr} {ol : Obj} {vs : List Value} {Q : Value → Led → Prop} (ho : (l, ol) ∈ obs) (hl : LsO ol vs)
    (h : ∀ it ob, C.he.objs.size ≤ it → LiP l 0 ob → Q (.ref it) ((it, ob) :: obs)) : Tr C A E ρ obs (pyIter (.ref l)) Q := fun s S =>
  wpAny_pyIter_list (hl.isList (S.ob _ ho).1) ⟨_, S.push _ rfl, h _ _ S.size ⟨rfl, rfl⟩⟩
theorem Tr_iter_tuple {l : Addr} {ol : Obj} {vs : List Value} {Q : Value → Led → Prop} (ho : (l, ol) ∈ obs) (hl : TpO ol vs)
    (h : ∀ it ob, C.he.objs.size ≤ it → TiP l 0 ob → Q (.ref it) ((it, ob) :: obs)) : Tr C A E ρ obs (pyIter (.ref l)) Q := fun s S =>
  wpAny_pyIter_tuple ⟨_, (S.ob _ ho).1, hl⟩ ⟨_, S.push _ rfl, h _ _ S.size ⟨rfl, rfl⟩⟩
def RgO (n : Nat) (o : Obj) : Prop := ∃ t u v, o = { cls := .type "range", dict := none, data := .fields #[.int 0 t, .int n u, .int 1 v], slots := #[] }
theorem Tr_range {n : Nat} {t : Tok} {Q : Value → Led → Prop} (h : ∀ r ob, RgO n ob → Q (.ref r) ((r, ob) :: obs)) : Tr C A E ρ obs (call (.type "range") [.int n t]) Q := fun s S =>
  call_range_1 ⟨_, (S.push _ rfl).tok _, h _ _ ⟨_, _, _, rfl⟩⟩
theorem Tr_iter_range {n : Nat} {r : Addr} {o : Obj} {Q : Value → Led → Prop} (hn : n < 2 ^ 40) (ho : (r, o) ∈ obs) (hl : RgO n o)
    (h : ∀ it ob, C.he.objs.size ≤ it → RiP n 0 ob → Q (.ref it) ((it, ob) :: obs)) : Tr C A E ρ obs (pyIter (.ref r)) Q := fun s S => by
  obtain ⟨t, u, v, rfl⟩ := hl
  have e := (S.ob _ ho).1
  refine wpAny_pyIter_range e (small_one (by decide) (by decide) (by omega) (by omega)) ⟨_, S.push _ rfl, h _ _ S.size ?_⟩
  unfold RiP
  rw [rangeSize_one]
  by_cases h0 : (0 : Int) < n
  · rw [if_pos h0]; simp
  · rw [if_neg h0]
    have : (n : Int) = 0 := by omega
    rw [this]; simp
theorem Tr_copy {l : Addr} {ol : Obj} {vs : List Value} {Q : Value → Led → Prop} (ho : (l, ol) ∈ obs) (hl : LsO ol vs) (hz : vs.length ≤ 2 ^ 20)
    (h : ∀ a n, C.he.objs.size ≤ a → Q (.ref a) ((a, lsO vs n) :: obs)) : Tr C A E ρ obs (call (.type "list") [.ref l]) Q := fun s S => by
  obtain ⟨hc, n, hd⟩ := hl
  refine call_list_seq (hsz := by simp; exact Nat.le_trans hz (by decide)) l (.inl rfl) (S.ob _ ho).1 hc hd (fun h' c' hk hD => ⟨_, ?_, h _ c' S.size⟩)
  have hsz : s.heap.objs.size < h'.objs.size := Heap.lt_size hD
  have S' : St C ρ obs { s with heap := h' } := S.to (S.wd.keeps (Nat.le_of_lt hsz) hk rfl ⟨rfl, rfl⟩) (.of_keep hk) (Nat.le_of_lt hsz)
  obtain ⟨m, hm, _⟩ := S.fr
  refine ⟨S'.sc, S'.wd, S'.kp, S'.fr, fun p hp => ?_, ?_, S'.ce, S'.sz⟩
  · rcases List.mem_cons.mp hp with rfl | hp
    · refine ⟨hD, far_of S.wd.big, Nat.ne_of_gt hm.lt, fun z c hc e => ?_⟩
      obtain ⟨v, hv⟩ := S.ce z c hc
      exact absurd hv.lt (by rw [← e]; exact Nat.lt_irrefl _)
    · exact S'.ob p hp
  · rw [List.map_cons, List.nodup_cons]
    refine ⟨fun hmem => ?_, S.nd⟩
    obtain ⟨p, hp, e⟩ := List.mem_map.mp hmem
    exact absurd (Heap.lt_size (S.ob p hp).1) (by rw [e]; exact Nat.lt_irrefl _)
end
end Mine
set_option maxRecDepth 100000
set_option Elab.async false
set_option linter.unusedVariables false
namespace Mine
open PySem PySem.W PySem.Spec PyProof.Rows PySem.Calls

local macro_rules | `(tactic| walk_at "m") => `(tactic| first
  | assumption
  | with_reducible exact List.mem_cons_self
  | with_reducible exact setL_here
  | (with_reducible refine setL_there ?_ ?_; (case refine_2 => decide +kernel); walk_at "m")
  | (with_reducible refine List.mem_cons_of_mem _ ?_; walk_at "m"))

section
variable {C : Cx} {A : Around} {E : Value → Shared → Prop} {ρ : Loc} {obs : Led}
/-! the same rules upon natural numbers -/
variable {a b : Nat} {t u : Tok} {Q : Value → Led → Prop}
theorem Tn_add (h : ∀ t, Q (.int ((a + b : Nat) : Int) t) obs) : Tr C A E ρ obs (binaryOp .Add (.int (a : Int) t) (.int (b : Int) u)) Q := Tr_add fun t => by have := h t; simpa using this
theorem Tn_xor (h : ∀ t, Q (.int ((a ^^^ b : Nat) : Int) t) obs) : Tr C A E ρ obs (binaryOp .BitXor (.int (a : Int) t) (.int (b : Int) u)) Q := Tr_xor fun t => by rw [xor_nat]; exact h t
theorem Tn_and (h : ∀ t, Q (.int ((a &&& b : Nat) : Int) t) obs) : Tr C A E ρ obs (binaryOp .BitAnd (.int (a : Int) t) (.int (b : Int) u)) Q := Tr_and fun t => by rw [and_nat]; exact h t
theorem Tn_mod (hb : b ≠ 0) (h : ∀ t, Q (.int ((a % b : Nat) : Int) t) obs) : Tr C A E ρ obs (binaryOp .Mod (.int (a : Int) t) (.int (b : Int) u)) Q := Tr_mod (by omega) fun t => by rw [fmod_nat]; exact h t
theorem Tn_fdiv (hb : b ≠ 0) (hl : b < 2 ^ 200) (h : ∀ t, Q (.int ((a / b : Nat) : Int) t) obs) : Tr C A E ρ obs (binaryOp .FloorDiv (.int (a : Int) t) (.int (b : Int) u)) Q :=
  Tr_fdiv (by omega) (PyProof.noPylong_of_log2 (Nat.lt_of_lt_of_le (log2_nat (by decide) hl) (by decide))) fun t => by rw [fdiv_nat]; exact h t
theorem Tn_mul {k : Nat} (ha : a < 2 ^ k) (hb : b < 2 ^ k) (hk : k ≤ 2 ^ 20) (h : ∀ t, Q (.int ((a * b : Nat) : Int) t) obs) : Tr C A E ρ obs (binaryOp .Mult (.int (a : Int) t) (.int (b : Int) u)) Q :=
  Tr_mul (.of_bits (Nat.le_trans (bits_nat ha) hk) (Nat.le_trans (bits_nat hb) hk)) fun t => by have := h t; simpa using this
theorem Tn_shr (h : ∀ t, Q (.int ((a / 2 ^ b : Nat) : Int) t) obs) : Tr C A E ρ obs (binaryOp .RShift (.int (a : Int) t) (.int (b : Int) u)) Q := Tr_shr (by omega) fun t => by
  have e : ((2 : Int) ^ ((b : Int)).toNat) = ((2 ^ b : Nat) : Int) := by simp
  rw [e, fdiv_nat]; exact h t
theorem Tn_shl {k : Nat} (ha : a < 2 ^ k) (hk : k + b ≤ 2 ^ 20) (h : ∀ t, Q (.int ((a * 2 ^ b : Nat) : Int) t) obs) : Tr C A E ρ obs (binaryOp .LShift (.int (a : Int) t) (.int (b : Int) u)) Q := Tr_shl (by omega) (by have := bits_nat ha; omega) fun t => by
  have e : ((2 : Int) ^ ((b : Int)).toNat) = ((2 ^ b : Nat) : Int) := by simp
  rw [e, ← Int.natCast_mul]; exact h t
theorem Tn_gt (h : Q (.bool (decide (b < a))) obs) : Tr C A E ρ obs (compareOp .Gt (.int (a : Int) t) (.int (b : Int) u)) Q := Tr_gt (by simpa using h)
theorem Tn_lt (h : Q (.bool (decide (a < b))) obs) : Tr C A E ρ obs (compareOp .Lt (.int (a : Int) t) (.int (b : Int) u)) Q := Tr_lt (by simpa using h)
theorem beq_nat (a b : Nat) : ((a : Int) == (b : Int)) = (a == b) := by
  by_cases h : a = b
  · subst h; simp
  · have : (a : Int) ≠ (b : Int) := by omega
    rw [beq_eq_false_iff_ne.mpr h, beq_eq_false_iff_ne.mpr this]
theorem Tn_eq (h : Q (.bool (a == b)) obs) : Tr C A E ρ obs (compareOp .Eq (.int (a : Int) t) (.int (b : Int) u)) Q := Tr_eq (by rw [beq_nat]; exact h)
theorem Tn_ne (h : Q (.bool (a != b)) obs) : Tr C A E ρ obs (compareOp .NotEq (.int (a : Int) t) (.int (b : Int) u)) Q := Tr_ne (by unfold bne at *; rw [beq_nat]; exact h)
theorem En_int {i : Nat} {k pos} (h : ∀ t, Q (.int ((i : Nat) : Int) t) obs) : Ev C A E ρ obs (.Constant (.int (i : Int)) k pos) Q := Ev_int h
end

set_option maxHeartbeats 4000000 in
theorem c_times {W : Wc} {A : Around} {E : Value → Shared → Prop} {s r o : Nat} {t1 t2 t3 : Tok} (hroom : A.depth < recursionLimit) (hs : s < 2 ^ 20) (hr : r < 2 ^ 200) (ho : o < 2 ^ 200) :
    Cl W A E (.ref 176) [.int s t1, .int r t2, .int o t3] [] (fun v => ∃ t, v = .int (times s r o) t) := by
  refine Cl_of (binds := [("scalar", .int s t1), ("row", .int r t2), ("ones", .int o t3)]) hroom (fun he L hc => ?_)
  with_reducible refine Ex_cons (Ex_assign (En_int (i := 0) fun t0 => ?_))
  with_reducible refine Ex_cons (Ex_while (fun n ρ o' => ∃ (a b c j : Nat) (ta tb tc : Tok), a = n ∧ ((Str.ofString "scalar", Value.int a ta) ∈ ρ) ∧ ((Str.ofString "row", Value.int b tb) ∈ ρ) ∧ ((Str.ofString "told", Value.int c tc) ∈ ρ) ∧ ((Str.ofString "ones", Value.int o t3) ∈ ρ) ∧
    timesA a c b o = times s r o ∧ a * 2 ^ j < 2 ^ 20 ∧ b < 2 ^ (200 + j)) s ⟨s, r, 0, 0, t1, t2, t0, rfl, by walk_at "m", by walk_at "m", by walk_at "m", by walk_at "m", rfl, by simpa using hs, by simpa using hr⟩ ?_)
  rintro n ρ o' ⟨a, b, c, j, ta, tb, tc, rfl, ha, hb, hcc, hoo, htm, haj, hbj⟩
  with_reducible refine Ts_cmp (Ev_name (by walk_at "m") (En_int (i := 0) fun t => Tn_gt (Tr_bool ?_)))
  by_cases h0 : 0 < a
  · rw [decide_eq_true h0, if_pos rfl]
    have hj : j < 20 := by
      have h1 : 2 ^ j ≤ a * 2 ^ j := Nat.le_mul_of_pos_left _ h0
      exact (Nat.pow_lt_pow_iff_right (by decide : 1 < 2)).mp (Nat.lt_of_le_of_lt h1 haj)
    with_reducible refine Ex_cons (Ex_mono (Q := fun f ρ' _ => f = .next ∧ (Str.ofString "scalar", Value.int a ta) ∈ ρ' ∧ (Str.ofString "row", Value.int b tb) ∈ ρ' ∧ (∃ tc', (Str.ofString "told", Value.int (if a % 2 = 1 then c ^^^ b else c : Nat) tc') ∈ ρ') ∧ (Str.ofString "ones", Value.int o t3) ∈ ρ')
      (Ex_if (Ts_cmp (Ev_bin (Ev_name (by walk_at "m") (En_int (i := 2) fun t => Tn_mod (by decide) fun t => En_int (i := 1) fun t => Tn_eq (Tr_bool ?_)))))) ?_)
    · by_cases h1 : a % 2 = 1
      · rw [if_pos h1, beq_iff_eq.mpr h1, if_pos rfl]
        with_reducible exact Ex_cons (Ex_assign (Ev_bin (Ev_name (by walk_at "m") (Ev_name (by walk_at "m") (Tn_xor fun t => Ex_nil ⟨rfl, by walk_at "m", by walk_at "m", ⟨_, by walk_at "m"⟩, by walk_at "m"⟩)))))
      · rw [if_neg h1, beq_eq_false_iff_ne.mpr h1, if_neg Bool.false_ne_true]
        exact Ex_nil ⟨rfl, by walk_at "m", by walk_at "m", ⟨_, by walk_at "m"⟩, by walk_at "m"⟩
    · rintro f ρ2 o2 ⟨rfl, m1, m2, ⟨tc', m3⟩, m4⟩
      have hb220 : b < 2 ^ 220 := Nat.lt_of_lt_of_le hbj (Nat.pow_le_pow_right (by decide) (by omega))
      have ht := top_le o b
      have hx : (b ^^^ ((b / 128) &&& o) * 128) < 2 ^ 220 := Nat.xor_lt_two_pow hb220 (by omega)
      with_reducible refine Ex_cons (Ex_assign (Ev_bin (Ev_bin (Ev_name (by walk_at "m") (En_int (i := 7) fun t => Tn_shr fun t => Ev_name (by walk_at "m") (Tn_and fun t => ?_))))))
      with_reducible refine Ex_cons (Ex_assign (Ev_bin (Ev_bin (Ev_bin (Ev_name (by walk_at "m") (Ev_bin (Ev_name (by walk_at "m") (En_int (i := 7) fun t => Tn_shl (k := 220) ?_ (by decide) fun t => Tn_xor fun t => En_int (i := 1) fun t =>
        Tn_shl (k := 220) ?_ (by decide) fun t => Ev_bin (Ev_name (by walk_at "m") (En_int (i := 27) fun t => Tn_mul (k := 220) ?_ (by decide) (by decide) fun t => Tn_xor fun t => ?_))))))))))
      · exact Nat.lt_of_le_of_lt Nat.and_le_left (by omega)
      · exact hx
      · exact Nat.lt_of_le_of_lt Nat.and_le_left (by omega)
      have ex : ((b ^^^ (b / 2 ^ 7 &&& o) * 2 ^ 7) * 2 ^ 1 ^^^ (b / 2 ^ 7 &&& o) * 27) = xt o b := rfl
      rw [ex]
      with_reducible refine Ex_cons (Ex_assign (Ev_bin (Ev_name (by walk_at "m") (En_int (i := 2) fun t => Tn_fdiv (by decide) (by decide) fun t => Ex_nil ?_))))
      refine ⟨a / 2, by omega, a / 2, xt o b, _, j + 1, _, _, _, rfl, by walk_at "m", by walk_at "m", by walk_at "m", by walk_at "m", ?_, ?_, xt_lt hbj⟩
      · rw [← htm]
        conv => rhs; unfold timesA
        rw [dif_neg (by omega)]
      · have : a / 2 * 2 ^ (j + 1) = (a / 2 * 2) * 2 ^ j := by rw [Nat.pow_succ, Nat.mul_comm (2 ^ j) 2, Nat.mul_assoc]
        rw [this]
        exact Nat.lt_of_le_of_lt (Nat.mul_le_mul_right _ (by omega)) haj
  · rw [decide_eq_false h0, if_neg Bool.false_ne_true]
    have ha0 : a = 0 := by omega
    subst ha0
    with_reducible refine Ex_cons (Ex_ret (Ev_name (by walk_at "m") ⟨tc, ?_⟩))
    show Value.int _ _ = _
    rw [← htm]; unfold timesA; simp
end Mine
set_option maxRecDepth 100000
set_option Elab.async false
set_option linter.unusedVariables false
namespace Mine
open PySem PySem.W PySem.Spec PyProof.Rows PySem.Calls

theorem setL_there' {x : Str} {v : Value} {p : Str × Value} {ρ : Loc} (h : p ∈ ρ) (hn : (p.1 == x) = false) : p ∈ setL x v ρ := setL_there (y := p.1) (u := p.2) h hn
local macro_rules | `(tactic| walk_at "m") => `(tactic| first
  | assumption
  | with_reducible exact List.mem_cons_self
  | with_reducible exact setL_here
  | (with_reducible refine setL_there' ?_ (by dsimp only; decide +kernel); walk_at "m")
  | (with_reducible refine List.mem_cons_of_mem _ ?_; walk_at "m"))

section
variable {C : Cx} {A : Around} {E : Value → Shared → Prop} {ρ : Loc} {obs : Led}

/-- xs[e:] -/
theorem Ev_from {value e : Expr} {p pos : Pos} {Q : Value → Led → Prop}
    (h : Ev C A E ρ obs value fun a o => Ev C A E ρ o e fun b o' => ∃ (l : Addr) (ol : Obj) (vs : List Value) (k : Nat) (t : Tok), a = .ref l ∧ b = .int k t ∧ (l, ol) ∈ o' ∧ LsO ol vs ∧ k ≤ vs.length ∧ vs.length ≤ 2 ^ 20 ∧
      ∀ r, C.he.objs.size ≤ r → Q (.ref r) ((r, lsO (vs.drop k) 0) :: o'))
    (ht : ∀ o r, letTemporaryGo value o r = pure () := by intro _ _; with_unfolding_all rfl) : Ev C A E ρ obs (.Subscript value (.Slice (some e) none none p) pos) Q := fun s S => by
  refine wpAny_Subscript_list_slice (wpAny_mono (h s S) (fun a s1 ⟨o1, S1, q1⟩ => wpAny_mono (q1 s1 S1) (fun b s2 ⟨o2, S2, q2⟩ => ?_) fun _ _ x => x) fun _ _ x => x) ht
  obtain ⟨l, ol, vs, k, t, rfl, rfl, ho, hl, hk, hz, hq⟩ := q2
  rw [evalPart_none]
  refine wpAny_pure ⟨l, vs.toArray, some (k : Int), none, rfl, hl.isList (S2.ob _ ho).1, by simp; exact Nat.le_trans hz (by decide), IsPart.int _ _, IsPart.none, ?_⟩
  rw [slicePick_from _ _ (by simpa using hk)]
  have S3 := S2.push { cls := .type "slice", data := .fields #[.int k t, .none, .none] } rfl
  have S4 := S3.push (lsO (vs.drop k) 0) rfl
  rw [show (s2.heap.push { cls := .type "slice", data := .fields #[.int k t, .none, .none] }).objs.size = s2.heap.objs.size + 1 from Heap.size_push ..] at S4
  refine ⟨_, ?_, hq (s2.heap.objs.size + 1) (Nat.le_succ_of_le S2.size)⟩
  exact S4.sb (fun _ h => h) (.cons (.skip (.refl _)))
theorem slicePick_to (items : Array Value) (b : Nat) (hb : b ≤ items.size) : slicePick items none (some b) none = (items.toList.take b).toArray := by
  have e : sliceBounds none (some (b : Int)) none items.size = (((0 : Nat) : Int), (b : Int), 1) := by
    simp only [sliceBounds, Option.getD_none]
    have h2 : ¬ ((b : Int) < 0) := by omega
    simp only [h2, if_false, show (1 : Int) > 0 by decide, if_true]
    congr 1
    congr 1; omega
  unfold slicePick
  rw [e]
  simp only [sliceRange_one, pick_run]
  simp
/-- xs[:e] -/
theorem Ev_to {value e : Expr} {p pos : Pos} {Q : Value → Led → Prop}
    (h : Ev C A E ρ obs value fun a o => Ev C A E ρ o e fun b o' => ∃ (l : Addr) (ol : Obj) (vs : List Value) (k : Nat) (t : Tok), a = .ref l ∧ b = .int k t ∧ (l, ol) ∈ o' ∧ LsO ol vs ∧ k ≤ vs.length ∧ vs.length ≤ 2 ^ 20 ∧
      ∀ r, C.he.objs.size ≤ r → Q (.ref r) ((r, lsO (vs.take k) 0) :: o'))
    (ht : ∀ o r, letTemporaryGo value o r = pure () := by intro _ _; with_unfolding_all rfl) : Ev C A E ρ obs (.Subscript value (.Slice none (some e) none p) pos) Q := fun s S => by
  refine wpAny_Subscript_list_slice (wpAny_mono (h s S) (fun a s1 ⟨o1, S1, q1⟩ => ?_) fun _ _ x => x) ht
  rw [evalPart_none]
  refine wpAny_pure ?_
  refine wpAny_mono (q1 s1 S1) (fun b s2 ⟨o2, S2, q2⟩ => ?_) fun _ _ x => x
  obtain ⟨l, ol, vs, k, t, rfl, rfl, ho, hl, hk, hz, hq⟩ := q2
  refine ⟨l, vs.toArray, none, some (k : Int), rfl, hl.isList (S2.ob _ ho).1, by simp; exact Nat.le_trans hz (by decide), IsPart.none, IsPart.int _ _, ?_⟩
  rw [slicePick_to _ _ (by simpa using hk)]
  have S3 := S2.push { cls := .type "slice", data := .fields #[.none, .int k t, .none] } rfl
  have S4 := S3.push (lsO (vs.take k) 0) rfl
  rw [show (s2.heap.push { cls := .type "slice", data := .fields #[.none, .int k t, .none] }).objs.size = s2.heap.objs.size + 1 from Heap.size_push ..] at S4
  refine ⟨_, ?_, hq (s2.heap.objs.size + 1) (Nat.le_succ_of_le S2.size)⟩
  exact S4.sb (fun _ h => h) (.cons (.skip (.refl _)))
end

theorem Cl_less {W : Wc} {A : Around} {E : Value → Shared → Prop} {f : Value} {vs : List Value} {obs : Led} {P : Value → Prop} (h : Cl W A E f vs [] P) : Cl W A E f vs obs P :=
  fun s w _ => h s w ⟨fun p hp => (nomatch hp), List.nodup_nil⟩
theorem Cl_sub {W : Wc} {A : Around} {E : Value → Shared → Prop} {f : Value} {vs : List Value} {obs obs' : Led} {P : Value → Prop} (hs : Sb obs' obs) (h : Cl W A E f vs obs' P) : Cl W A E f vs obs P := by
  intro s w ho
  obtain ⟨l, hl⟩ := hs
  refine h s w ⟨fun p hp => ho.1 p (hl.mem_iff.mp (List.mem_append_left _ hp)), ?_⟩
  have := (hl.map (·.1)).nodup_iff.mpr ho.2
  rw [List.map_append] at this
  exact (List.nodup_append.mp this).1

/-- a list of ints that are no less than nought -/
def NA (vs : List Value) (rs : List Nat) : Prop := vs.length = rs.length ∧ ∀ (i r : Nat), rs[i]? = some r → ∃ t, vs[i]? = some (Value.int (r : Int) t)
theorem NA.drop {vs : List Value} {rs : List Nat} (h : NA vs rs) (k : Nat) : NA (vs.drop k) (rs.drop k) :=
  ⟨by simp [h.1], fun i r hr => by rw [List.getElem?_drop] at hr ⊢; exact h.2 _ r hr⟩
theorem NA.take {vs : List Value} {rs : List Nat} (h : NA vs rs) (k : Nat) : NA (vs.take k) (rs.take k) :=
  ⟨by simp [h.1], fun i r hr => by
    rw [List.getElem?_take] at hr ⊢
    split at hr
    · rename_i hi; rw [if_pos hi]; exact h.2 _ r hr
    · cases hr⟩
theorem NA.val {vs : List Value} {rs : List Nat} (h : NA vs rs) {i : Nat} {v : Value} (hv : vs[i]? = some v) : ∃ r t, rs[i]? = some r ∧ v = .int (r : Int) t := by
  have hi : i < rs.length := by rw [← h.1]; exact (List.getElem?_eq_some_iff.mp hv).1
  obtain ⟨t, ht⟩ := h.2 i rs[i] (List.getElem?_eq_getElem hi)
  exact ⟨_, t, List.getElem?_eq_getElem hi, Option.some.inj (hv.symm.trans ht)⟩

def lawAt (x o : Nat) (rs : List Nat) : Nat := rs.tail.foldl (fun t r => times x t o ^^^ r) (rs.headD 0)
theorem timesA_lt {o k : Nat} (hc : ∀ r, r < 2 ^ k → xt o r < 2 ^ k) : ∀ (s t r : Nat), t < 2 ^ k → r < 2 ^ k → timesA s t r o < 2 ^ k := by
  intro s
  induction s using Nat.strongRecOn with
  | ind s ih =>
    intro t r ht hr
    unfold timesA
    split
    · exact ht
    · refine ih (s / 2) (by omega) _ _ ?_ (hc r hr)
      split
      · exact Nat.xor_lt_two_pow ht hr
      · exact ht
theorem times_lt {o k s r : Nat} (hc : ∀ r, r < 2 ^ k → xt o r < 2 ^ k) (hr : r < 2 ^ k) : times s r o < 2 ^ k := timesA_lt hc s 0 r (Nat.two_pow_pos k) hr

noncomputable def rowN (ns : List Int) (p : Int) (sz : Nat) : Nat := ((number ns p * mix).fmod (((256 ^ sz : Nat) : Nat) : Int)).toNat
theorem rowN_lt (ns : List Int) (p : Int) (sz : Nat) : rowN ns p sz < 256 ^ sz := by
  unfold rowN
  have h : (0 : Int) < ((256 ^ sz : Nat) : Int) := by have := Nat.pow_pos (n := sz) (by decide : 0 < 256); omega
  have h1 := Int.fmod_lt_of_pos (number ns p * mix) h
  have h2 := Int.fmod_nonneg_of_pos (number ns p * mix) h
  omega

theorem c_row {W : Wc} {A : Around} {E : Value → Shared → Prop} {a : Addr} {o : Obj} {vs : List Value} {ns : List Int} {p : Int} {sz : Nat} {t u : Tok} (hroom : A.depth + 1 < recursionLimit) (hl : LsO o vs) (hi : IntsAre vs ns) (hlen : ns.length < 2 ^ 40)
    (hb : ∀ x ∈ ns, Builtin.Int.intBits x ≤ 2 ^ 20) (h0 : 0 ≤ p) (h1 : p < 2 ^ 40) (hs : sz ≤ 17) :
    Cl W A E (.ref 169) [.ref a, .int p t, .int sz u] [(a, o)] (fun v => ∃ t, v = .int (rowN ns p sz) t) := by
  refine Cl_of (binds := [("script", .ref a), ("place", .int p t), ("size", .int sz u)]) (Nat.lt_of_succ_lt hroom) (fun he L hc => ?_)
  with_reducible refine Ex_cons (Ex_ret (Ev_bin (Ev_bin (Ev_call (f := .ref 162) (by kernel_rfl!) (by kernel_rfl!) (Ag_cons (Ev_name (by walk_at "m") (Ag_cons (Ev_name (by walk_at "m") (Ag_nil (Tr_cl (c_number (by with_unfolding_all exact hroom) hl hi hlen h0 h1) ?_))))))))))
  rintro v ⟨t1, rfl⟩
  with_reducible refine Ev_glob (v := .int mix 412) (by kernel_rfl!) (Tr_mul ?_ fun t2 => ?_)
  · exact .of_bits (Nat.le_trans (number_bits hb h0 h1) (by decide)) (Nat.le_trans mix_bits (by decide))
  with_reducible refine Ev_bin (Ev_int fun t3 => Ev_name (by walk_at "m") (Tr_pow (by omega) ?_ fun t4 => Tr_mod ?_ fun t5 => ?_))
  · have : Builtin.Int.intBits 256 = 9 := by decide +kernel
    rw [this]; omega
  · have : (256 : Int) ^ ((sz : Int)).toNat = ((256 ^ sz : Nat) : Int) := by simp
    rw [this]
    have := Nat.pow_pos (n := sz) (by decide : 0 < 256)
    omega
  · refine ⟨t5, ?_⟩
    show Value.int _ _ = _
    have e : (256 : Int) ^ ((sz : Int)).toNat = ((256 ^ sz : Nat) : Int) := by simp
    rw [e]
    have h : (0 : Int) < ((256 ^ sz : Nat) : Int) := by have := Nat.pow_pos (n := sz) (by decide : 0 < 256); omega
    have h2 := Int.fmod_nonneg_of_pos (number ns p * mix) h
    unfold rowN
    rw [Int.toNat_of_nonneg h2]

theorem c_at {W : Wc} {A : Around} {E : Value → Shared → Prop} {a : Addr} {ob : Obj} {vs : List Value} {rs : List Nat} {x o k : Nat} {t u : Tok} (hroom : A.depth + 1 < recursionLimit) (hh : A.handled = none) (hl : LsO ob vs) (hi : NA vs rs) (hne : 0 < rs.length) (hlen : rs.length ≤ 2 ^ 20)
    (hx : x < 2 ^ 20) (hk : k ≤ 200) (ho : o < 2 ^ 200) (hc : ∀ r, r < 2 ^ k → xt o r < 2 ^ k) (hr : ∀ r ∈ rs, r < 2 ^ k) :
    Cl W A E (.ref 183) [.ref a, .int x t, .int o u] [(a, ob)] (fun v => ∃ t, v = .int (lawAt x o rs) t) := by
  refine Cl_of (binds := [("rows", .ref a), ("x", .int x t), ("ones", .int o u)]) (Nat.lt_of_succ_lt hroom) (fun he L hcl => ?_)
  obtain ⟨t0, h0⟩ := hi.2 0 rs[0] (List.getElem?_eq_getElem hne)
  have hk2 : (2 : Nat) ^ k ≤ 2 ^ 200 := Nat.pow_le_pow_right (by decide) hk
  with_reducible refine Ex_cons (Ex_assign (Ev_sub (Ev_name (by walk_at "m") (En_int (i := 0) fun t1 => Tr_item (x := .int (rs[0] : Nat) t0) List.mem_cons_self hl (by decide) (by decide) (by with_unfolding_all exact h0) ?_))))
  with_reducible refine Ex_cons (Ex_for (Ev_from (Ev_name (by walk_at "m") (En_int (i := 1) fun t2 => ?_))))
  refine ⟨a, ob, vs, 1, t2, rfl, rfl, List.mem_cons_self, hl, by rw [hi.1]; omega, by rw [hi.1]; exact hlen, fun r hr0 => ?_⟩
  refine Tr_iter_list List.mem_cons_self (lsO_is _ _) (fun it ib hit hib => ?_)
  have hd := hi.drop 1
  have hdl : (vs.drop 1).length = rs.tail.length := by rw [hd.1]; simp
  refine ⟨it, ib, _, LiP r, _, _, _, rfl, rfl, nx_list (C := ⟨W, he, envF W.w 183 L⟩) hh hit (lsO_is (vs.drop 1) 0), hib, fun i ρ o' => (∃ t', (Str.ofString "told", Value.int (((rs.tail.take i).foldl (fun t r => times x t o ^^^ r) (rs.headD 0) : Nat) : Int) t') ∈ ρ ∧
      (rs.tail.take i).foldl (fun t r => times x t o ^^^ r) (rs.headD 0) < 2 ^ k) ∧ (Str.ofString "x", Value.int x t) ∈ ρ ∧ (Str.ofString "ones", Value.int o u) ∈ ρ ∧ (r, lsO (vs.drop 1) 0) ∈ o', ?_, ?_, ?_, ?_⟩
  · rintro i ρ o' ⟨_, _, _, h⟩ p hp
    rw [List.mem_singleton.mp hp]; exact h
  · have e0 : rs.headD 0 = rs[0] := by cases rs with
      | nil => exact absurd hne (by decide)
      | cons y r => rfl
    refine ⟨⟨t0, ?_, ?_⟩, by walk_at "m", by walk_at "m", List.mem_cons_self⟩
    · simp only [List.take_zero, List.foldl_nil]; rw [e0]; walk_at "m"
    · simp only [List.take_zero, List.foldl_nil]; rw [e0]; exact hr _ (List.getElem_mem hne)
  · rintro i ρ o' v ib' hi' hv hib' ⟨⟨t', m1, hb1⟩, m2, m3, m4⟩
    obtain ⟨r1, t1, hr1, rfl⟩ := hd.val hv
    have hr1' : rs.tail[i]? = some r1 := by simpa using hr1
    have hmem : r1 ∈ rs := List.mem_of_mem_tail (List.mem_of_getElem? hr1')
    with_reducible refine Ex_cons (Ex_assign (Ev_bin (Ev_call (f := .ref 176) (by kernel_rfl!) (by kernel_rfl!) (Ag_cons (Ev_name (by walk_at "m") (Ag_cons (Ev_name (by walk_at "m") (Ag_cons (Ev_name (by walk_at "m") (Ag_nil ?_))))))))))
    with_reducible refine Tr_cl (Cl_less (c_times (by with_unfolding_all exact hroom) hx (Nat.lt_of_lt_of_le hb1 hk2) ho)) ?_
    rintro _ ⟨t3, rfl⟩
    with_reducible refine Ev_name (by walk_at "m") (Tn_xor fun t4 => Ex_nil ?_)
    have et : (rs.tail.take (i + 1)).foldl (fun t r => times x t o ^^^ r) (rs.headD 0) = times x ((rs.tail.take i).foldl (fun t r => times x t o ^^^ r) (rs.headD 0)) o ^^^ r1 := by
      rw [List.take_add_one, hr1']; simp
    refine ⟨_, Sb.refl _, ⟨t4, ?_, ?_⟩, by walk_at "m", by walk_at "m", m4⟩
    · rw [et]; walk_at "m"
    · rw [et]; exact Nat.xor_lt_two_pow (times_lt hc hb1) (hr _ hmem)
  · rintro ρ o' ⟨⟨t', m1, _⟩, _⟩
    with_reducible refine Ex_cons (Ex_ret (Ev_name (by walk_at "m") ⟨t', ?_⟩))
    have : rs.tail.take (vs.drop 1).length = rs.tail := by rw [hdl]; exact List.take_length ..
    show Value.int _ _ = _
    rw [this]; rfl
end Mine
set_option maxRecDepth 100000
set_option Elab.async false
set_option linter.unusedVariables false
namespace Mine
open PySem PySem.W PySem.Spec PyProof.Rows PySem.Calls

/-! a generator expression without tests, whose element may call: its depth is bounded -/
def tt : Nat → Bool := fun _ => true
theorem tt_len (n i : Nat) : (passing tt n i).length = n - i := by
  unfold passing
  rw [List.filter_eq_self (p := tt).mpr (fun _ _ => rfl), List.length_drop, List.length_range]
theorem tt_at {n j i : Nat} (h : (passing tt n 0)[j]? = some i) : i = j ∧ j < n := by
  unfold passing at h
  rw [List.filter_eq_self (p := tt).mpr (fun _ _ => rfl), List.drop_zero] at h
  obtain ⟨h1, h2⟩ := List.getElem?_eq_some_iff.mp h
  rw [List.length_range] at h1
  rw [List.getElem_range] at h2
  exact ⟨h2.symm, h1⟩

section
variable {prog : Program} {w : World} {A : Around}

def QD (prog : Program) (w : World) (d : Nat) (cenv : Env) (x : Str) (elt : Expr) (fp wr : List Addr) (P : Nat → Value → Prop) (F : Nat → Value → Prop) (href : Heap) : Prop :=
  ∀ (A' : Around) E' i v (s : Shared) m, A'.handled = none → A'.depth ≤ d → P i v → s.heap.Ns cenv.locals m → m x = some v → (∀ b ∈ fp, b ∉ wr → ∀ o, href.get? b = some o → s.heap.get? b = some o) →
    wpAny (model prog w) A' (eval elt cenv) (fun y s' => F i y ∧ Keeps s s') E' s

theorem seg_loopD {elt iter : Expr} {x : Str} {px : Pos} {scope : Scope} {pos : Pos} {I : Addr} {fp wr : List Addr} {n : Nat} {P : Nat → Value → Prop} {T : Nat → Heap → Prop} {cenv : Env}
    (hh : A.handled = none) (W : ∀ A' : Around, A'.handled = none → Walks prog w A' I fp wr n P T) (F : Nat → Value → Prop) (href : Heap)
    (hx : cenv.kindOf x = some .local) (hp : (cenv.scope.kind == .class || (cenv.scope.kind == .module && cenv.locals != cenv.globals)) = false)
    (hco : cenv.scope.isCoroutine = false) (hC : cenv.locals ∉ fp) (hq : QD prog w (A.depth + 1) cenv x elt fp wr P F href) :
    ∀ (k i : Nat) (s₀ s : Shared) (m : Str → Option Value), n - i = k → i ≤ n → T i s.heap → s.heap.Ns cenv.locals m → GenSince cenv.locals wr s₀ s →
      (∀ b ∈ fp, b ∉ wr → ∀ o, href.get? b = some o → s.heap.get? b = some o) →
      Seg (model prog w) A (fun n s₀ r s₁ => r = .ok .next ∧ (n = 0 ∧ GenSince cenv.locals wr s₀ s₁)) (genProto cenv.locals fp wr tt n F) (passing tt n i).length s₀
        (.compLoop (.GeneratorExp elt [⟨.Name x px, iter, [], 0⟩] scope pos) 0 (.ref I) .none cenv)
        ((model prog w).den (.compLoop (.GeneratorExp elt [⟨.Name x px, iter, [], 0⟩] scope pos) 0 (.ref I) .none cenv)) [] s := by
  have hd : (A.over (.compLoop (.GeneratorExp elt [⟨.Name x px, iter, [], 0⟩] scope pos) 0 (.ref I) .none cenv) []).depth ≤ A.depth + 1 := Nat.le_refl _
  have hh' : (A.over (.compLoop (.GeneratorExp elt [⟨.Name x px, iter, [], 0⟩] scope pos) 0 (.ref I) .none cenv) []).handled = none := hh
  have hCw : cenv.locals ∉ wr := fun h => hC ((W A hh).sub _ h)
  intro k
  induction k with
  | zero =>
    intro i s₀ s m hk hi ht hn hs hkp
    have e : i = n := by omega
    subst e
    show Seg _ A _ _ _ s₀ _ ((compTurn (.GeneratorExp elt [⟨.Name x px, iter, [], 0⟩] scope pos) 0 (.ref I) .none cenv).onRaise (leaving cenv)) [] s
    rw [compTurn_gen, Sem.onRaise_eq_wrap]
    refine seg_bind_wrap (wpAny_standAt (seg_bind_wrap ((W _ hh').done s _ _ ht fun h' tk hk' => ?_)))
    exact seg_end (.ok .next) ⟨rfl, by rw [tt_len]; exact Nat.sub_self _, hs.step fun b o _ hw e => hk' b o hw e⟩
  | succ k ih =>
    intro i s₀ s m hk hi ht hn hs hkp
    have hlt : i < n := by omega
    show Seg _ A _ _ _ s₀ _ ((compTurn (.GeneratorExp elt [⟨.Name x px, iter, [], 0⟩] scope pos) 0 (.ref I) .none cenv).onRaise (leaving cenv)) [] s
    rw [compTurn_gen, Sem.onRaise_eq_wrap]
    refine seg_bind_wrap (wpAny_standAt (seg_bind_wrap ((W _ hh').item i s _ _ hlt ht fun v h₁ tk₁ hv t₁ k₁ => ?_)))
    refine seg_bind_wrap (wpAny_of_eq (rfl : letOwnedTupleGo (.Name x px) (.ref I) v = pure ()) ?_)
    refine seg_bind_wrap (wpAny_assign_Name (wpAny_storeName_local hx (hn.at' fun o e => k₁ _ o hCw e) (fun h₂ n₂ s₂ => ?_) hp))
    have up : ∀ b o, b ≠ cenv.locals → b ∉ wr → s.heap.get? b = some o → h₂.get? b = some o := fun b o hbC hbw e => s₂.extBut b o hbC (k₁ b o hbw e)
    have t₂ : T (i + 1) h₂ := (W A hh).frame _ _ _ t₁ fun b hb o e => s₂.extBut b o (fun h => hC (h ▸ hb)) e
    have kp₂ : ∀ b ∈ fp, b ∉ wr → ∀ o, href.get? b = some o → h₂.get? b = some o := fun b hb hbw o e => up b o (fun h => hC (h ▸ hb)) hbw (hkp b hb hbw o e)
    simp only [List.forIn_nil]
    refine seg_bind_wrap (wpAny_pure ?_)
    have en : (passing tt n i).length = (passing tt n (i + 1)).length + 1 := by rw [tt_len, tt_len]; omega
    have hy : ∀ v, yieldOut cenv v = yieldValue v := fun v => by simp only [yieldOut, hco, Bool.false_eq_true, if_false]
    rw [en]
    simp only [if_true, hy]
    rw [Sem.bind_eq_wrap', Sem.bind_eq_wrap', Sem.wrap_wrap, Sem.wrap_wrap]
    refine seg_wrap (wpAny_mono (hq _ _ i v _ _ hh' hd hv n₂ (by simp) kp₂) (fun y s₄ h₄ => ?_) fun _ _ e => e)
    obtain ⟨hF, h₄, tk₄, rfl, k₄⟩ := h₄
    refine seg_at (seg_yield rfl rfl rfl ⟨⟨i, passing_here hlt rfl, hF⟩, hs.step fun b o hbC hbw e => k₄ b o (up b o hbC hbw e), fun s'' hal => ?_⟩)
    refine seg_again rfl (ih (i + 1) s'' s'' _ (by omega) hlt ((W A hh).frame _ _ _ t₂ fun b hb o e => hal b (List.mem_cons_of_mem _ hb) o (k₄ b o e))
      ((n₂.keeps k₄).at' fun o e => hal _ (List.mem_cons_self ..) o e) (GenSince.refl _ _ _) fun b hb hbw o e => hal b (List.mem_cons_of_mem _ hb) o (k₄ b o (kp₂ b hb hbw o e)))

theorem seg_startD {elt iter : Expr} {x : Str} {px : Pos} {scope : Scope} {pos : Pos} {I : Addr} {fp wr : List Addr} {n : Nat} {P : Nat → Value → Prop} {T : Nat → Heap → Prop} {cenv : Env}
    (hh : A.handled = none) (W : ∀ A' : Around, A'.handled = none → Walks prog w A' I fp wr n P T) (F : Nat → Value → Prop) (href : Heap)
    (hx : cenv.kindOf x = some .local) (hp : (cenv.scope.kind == .class || (cenv.scope.kind == .module && cenv.locals != cenv.globals)) = false)
    (hco : cenv.scope.isCoroutine = false) (hC : cenv.locals ∉ fp) (hq : QD prog w (A.depth + 1) cenv x elt fp wr P F href)
    (s₀ s : Shared) (m : Str → Option Value) (ht : T 0 s.heap) (hn : s.heap.Ns cenv.locals m) (hs : GenSince cenv.locals wr s₀ s) (hkp : ∀ b ∈ fp, b ∉ wr → ∀ o, href.get? b = some o → s.heap.get? b = some o) :
    Seg (model prog w) A (fun n s₀ r s₁ => r = .ok .next ∧ (n = 0 ∧ GenSince cenv.locals wr s₀ s₁)) (genProto cenv.locals fp wr tt n F) (passing tt n 0).length s₀
      (.compStart (.GeneratorExp elt [⟨.Name x px, iter, [], 0⟩] scope pos) 0 (.ref I) .none cenv)
      ((model prog w).den (.compStart (.GeneratorExp elt [⟨.Name x px, iter, [], 0⟩] scope pos) 0 (.ref I) .none cenv)) [] s := by
  have hh' : (A.over (.compStart (.GeneratorExp elt [⟨.Name x px, iter, [], 0⟩] scope pos) 0 (.ref I) .none cenv) []).handled = none := hh
  have loop := seg_loopD (iter := iter) (px := px) (scope := scope) (pos := pos) hh W F href hx hp hco hC hq n 0 s₀ s m (Nat.sub_zero _) (Nat.zero_le _) ht hn hs hkp
  show Seg _ A _ _ _ s₀ _ ((compStart (.GeneratorExp elt [⟨.Name x px, iter, [], 0⟩] scope pos) 0 (.ref I) .none cenv).onRaise (leaving cenv)) [] s
  unfold compStart
  rw [Sem.onRaise_eq_wrap]
  show Seg _ A _ _ _ s₀ _ ((ask >>= _).wrap _ _ _ _) [] s
  refine seg_bind_wrap (wpAny_askSetting ?_)
  split
  · exact seg_again rfl loop
  · first
      | exact seg_bind_wrap (wpAny_rule (seg_bind_wrap (wpAny_standAt (seg_bind_wrap ((W _ hh').self 0 s _ _ ht (seg_again rfl loop))))))
      | (refine seg_bind_wrap (wpAny_rule ?_); show Seg _ A _ _ _ s₀ _ ((standAt iter.pos >>= _).wrap _ _ _ _) [] s; exact seg_bind_wrap (wpAny_standAt (seg_bind_wrap ((W _ hh').self 0 s _ _ ht (seg_again rfl loop)))))
end
end Mine
set_option maxRecDepth 100000
set_option Elab.async false
set_option linter.unusedVariables false
namespace Mine
open PySem PySem.W PySem.Spec PyProof.Rows PySem.Calls

def bareQ : Array GenState → Option Obj → Prop := fun g _ => AllBare g

theorem bmod {W : Wc} {s : Shared} (x : Wd W s) : ∃ o, s.heap.get? 4 = some o ∧ o.cls = .type "module" ∧ o.dict = some builtinsNs ∧ o.data = .plain :=
  let ⟨o, e, r⟩ := x.bs.bm
  ⟨o, x.kp.keep _ _ (by decide) e, r⟩
theorem g_bi (w : World) : gvar w (Str.ofString "__builtins__") = some (.ref 4) := by kernel_rfl

theorem table_inj {a b : Array Value} (h : X.tableObj a = X.tableObj b) : a = b := by
  unfold X.tableObj at h
  injection h with _ _ h _
  injection h
theorem Wd.table {W : Wc} {s : Shared} (x : Wd W s) : ∃ ps, s.heap.IsCode 154 150 ps ∧ s.heap.TableAt 154 150 ps := by
  obtain ⟨ps, hc⟩ := x.code
  obtain ⟨⟨o, vs, e1, e2, e3, e4⟩, t2⟩ := x.bs.tab
  obtain ⟨more, e⟩ := x.kp.tab #[] t2
  obtain ⟨o', vs', file, tf, flags, tg, inF, text, tt, op, a, r1, r2, r3, r4, r5, r6, b, r7, r⟩ := id hc
  rw [e] at b
  have : (#[] : Array Value) ++ more = ps := by
    cases b; injection r7
  exact ⟨ps, hc, ⟨o, vs, x.kp.keep _ _ (by decide) e1, e2, e3, e4⟩, by rw [← this]; exact e⟩

section
variable {C : Cx} {A : Around} {E : Value → Shared → Prop} {ρ : Loc} {obs : Led}

def Foreign (C : Cx) (obs : Led) (b : Addr) : Prop := C.he.objs.size ≤ b ∧ b ≠ C.env.locals ∧ (∀ x c, C.env.cells.lookup x = some c → b ≠ c) ∧ ∀ p ∈ obs, p.1 ≠ b
theorem St.foreign {s : Shared} {p : Addr × Obj} (S : St C ρ (p :: obs) s) (hp : C.he.objs.size ≤ p.1) : Foreign C obs p.1 := by
  obtain ⟨_, _, h3, h4⟩ := S.ob p List.mem_cons_self
  have hn := S.nd
  rw [List.map_cons, List.nodup_cons] at hn
  exact ⟨hp, h3, h4, fun q hq e => hn.1 (List.mem_map.mpr ⟨q, hq, e⟩)⟩
theorem St.old {s : Shared} (S : St C ρ obs s) {b : Addr} (hb : s.heap.objs.size ≤ b) : Foreign C obs b := by
  obtain ⟨m, hm, _⟩ := S.fr
  refine ⟨Nat.le_trans S.sz hb, fun e => ?_, fun x c hc e => ?_, fun p hp e => ?_⟩
  · exact absurd hm.lt (by rw [← e]; exact Nat.not_lt.mpr hb)
  · obtain ⟨v, hv⟩ := S.ce x c hc
    exact absurd hv.lt (by rw [← e]; exact Nat.not_lt.mpr hb)
  · exact absurd (Heap.lt_size (S.ob p hp).1) (by rw [e]; exact Nat.not_lt.mpr hb)

/-- a step that turns only objects that nobody here knows -/
theorem St.shift {s s' : Shared} {wr : List Addr} (S : St C ρ obs s) (hg : C.env.scope.names.lookup (Str.ofString ".0") = none) (hk : ∀ b o, b ∉ wr → s.heap.get? b = some o → s'.heap.get? b = some o) (hwr : ∀ b ∈ wr, Foreign C obs b)
    (hq : C.W.gq s'.gens (s'.heap.get? 150)) (ho : s'.os = s.os) (hd : C.W.dq s'.drawn) : St C ρ obs s' := by
  obtain ⟨m, hm, hρ⟩ := S.fr
  have hL : C.env.locals ∉ wr := fun h => (hwr _ h).2.1 rfl
  have hcell : ∀ y c v, C.env.cells.lookup y = some c → s.heap.IsCell c v → s'.heap.IsCell c v := fun y c v hc ⟨o, e, d⟩ => ⟨o, hk _ _ (fun h => (hwr _ h).2.2.1 _ _ hc rfl) e, d⟩
  have hm' : s'.heap.Ns C.env.locals m := let ⟨o, es, ep, e, r⟩ := hm; ⟨o, es, ep, hk _ _ hL e, r⟩
  have hz : C.he.objs.size ≤ s'.heap.objs.size := Nat.le_trans (S.sc.gx hg) (Nat.le_of_lt hm'.lt)
  have hlow : ∀ b, b < C.he.objs.size → b ∉ wr := fun b hb h => Nat.lt_irrefl _ (Nat.lt_of_lt_of_le hb (hwr _ h).1)
  have h203 : ∀ b : Nat, b < 203 → b ∉ wr := fun b hb => hlow b (Nat.lt_of_lt_of_le hb S.sc.hi)
  refine ⟨S.sc, ⟨S.wd.bs, Nat.le_trans S.sc.hb hz, ⟨fun b o hb e => hk b o (hlow b (Nat.lt_of_lt_of_le (Heap.lt_size e) S.sc.hb)) (S.wd.kp.keep b o hb e), fun ps e => ?_⟩, ?_, hq, ho.trans S.wd.os.1, hd⟩,
    ⟨fun b o hb e => hk b o (hlow b (Heap.lt_size e)) (S.kp.keep b o hb e), fun ps e => ?_⟩, ⟨m, hm', fun p hp => ⟨(hρ p hp).1, fun k => ?_⟩⟩, fun p hp => ?_, S.nd, fun y c hc => ?_, hz⟩
  · obtain ⟨m, e⟩ := S.wd.kp.tab ps e
    exact ⟨m, hk _ _ (h203 150 (by decide)) e⟩
  · obtain ⟨ps, h⟩ := S.wd.code
    exact ⟨ps, IsCode_of h (fun o e => hk _ _ (h203 154 (by decide)) e) (fun o e => hk _ _ (h203 150 (by decide)) e)⟩
  · obtain ⟨m, e⟩ := S.kp.tab ps e
    exact ⟨m, hk _ _ (h203 150 (by decide)) e⟩
  · obtain ⟨c, hc, hv⟩ := (hρ p hp).2 k
    exact ⟨c, hc, hcell _ _ _ hc hv⟩
  · obtain ⟨a, r⟩ := S.ob p hp
    exact ⟨hk _ _ (fun h => (hwr _ h).2.2.2 p hp rfl) a, r⟩
  · obtain ⟨v, hv⟩ := S.ce y c hc
    exact ⟨v, hcell y c v hc hv⟩

theorem Tr_code {pos : Pos} {q : Str} {scope : Scope} {Q : Value → Led → Prop} (hq : C.W.gq = bareQ) (hc : C.env.code = .ref 154) (h : ∀ v, Q v obs) : Tr C A E ρ obs (genexprCode C.env pos q scope) Q := fun s S => by
  obtain ⟨ps, i1, i2⟩ := S.wd.table
  cases hf : codeAmong pos ps.toList with
  | some c' => exact wpAny_genexprCode_hit hc i1 hf ⟨obs, S, h _⟩
  | none =>
    refine wpAny_genexprCodeX hc i1 i2 hf fun c' h' tk hx hge hlt hcode _ htab _ => ⟨obs, ?_, h _⟩
    have hz : s.heap.objs.size ≤ h'.objs.size := Nat.le_trans hge (Nat.le_of_lt hlt)
    have hinj : ∀ ps₀, s.heap.get? 150 = some (X.tableObj ps₀) → ps₀ = ps := fun ps₀ e => by
      rw [i2.2] at e; exact (table_inj (Option.some.inj e)).symm
    refine St.to S ⟨S.wd.bs, Nat.le_trans S.wd.lt hz, ⟨fun b o hb e => hx b o hb (S.wd.kp.keep b o hb e), fun ps₀ e => ?_⟩, ⟨_, hcode⟩, ?_, S.wd.os⟩ ⟨fun b o hb e => hx b o hb e, fun ps₀ e => ?_⟩ hz
    · obtain ⟨more, e⟩ := S.wd.kp.tab ps₀ e
      have e2 := hinj _ e
      exact ⟨more ++ #[rawInt pos.line, rawInt pos.col, .ref c'], by rw [← Array.append_assoc, e2]; exact htab.2⟩
    · have := S.wd.bare
      rw [hq] at this ⊢
      exact this
    · have e2 := hinj _ e
      exact ⟨#[rawInt pos.line, rawInt pos.col, .ref c'], by rw [e2]; exact htab.2⟩

theorem Tr_bifor {Q : Addr → Led → Prop} (h : Q builtinsNs obs) : Tr C A E ρ obs (builtinsFor C.env.globals C.env.builtins) Q := fun s S => by
  obtain ⟨o, e1, e2, e3, e4⟩ := bmod S.wd
  rw [S.sc.gl]
  exact wpAny_builtinsFor (ns3 S.wd.k) (g_bi C.W.w) (by decide) e1 e2 e3 e4 ⟨obs, S, h⟩

def clOf (scope : Scope) (env : Env) : List (Str × Addr) := (scope.names.filter (·.2 == .free)).foldl (fun cs p => (p.1, (env.cells.lookup p.1).getD 0) :: cs) []

def frz (W : Wc) (s : Shared) : Wc := { W with os := s.os, dq := fun d => d = s.drawn, gq := fun g o => g = s.gens ∧ o = s.heap.get? 150 }

/-- what a generator's frame sees -/
theorem St_gen {s₄ s : Shared} {scope : Scope} {code : Value} {h₅ : Heap} {m : Str → Option Value} {ρl ρf : Loc} {wr : List Addr} (S : St C ρ obs s₄) (k₅ : ∀ b o, s₄.heap.get? b = some o → h₅.get? b = some o)
    (hns : s.heap.Ns s₄.heap.objs.size m) (hwr : ∀ b ∈ wr, Foreign C obs b) (keep : ∀ b ∈ List.range s₄.heap.objs.size, b ∉ wr → ∀ o, h₅.get? b = some o → s.heap.get? b = some o)
    (hl : ∀ p ∈ ρl, scope.names.lookup p.1 = some .local ∧ m p.1 = some p.2) (hf : ∀ p ∈ ρf, p ∈ ρ)
    (h0 : scope.names.lookup (Str.ofString ".0") = some NameKind.local) (hkind : scope.kind = .function)
    (cA : (clOf scope C.env).map (fun p => C.env.cells.lookup p.1) = (clOf scope C.env).map (fun p => some p.2)) (cB : ρf.map (fun p => (clOf scope C.env).lookup p.1) = ρf.map (fun p => C.env.cells.lookup p.1))
    (cC : (ρf.all fun p => scope.names.lookup p.1 == some .free && !(C.env.kindOf p.1 == some .local)) = true) :
    St ⟨frz C.W s, s.heap, genEnv scope (clOf scope C.env) s₄.heap.objs.size code builtinsNs C.env⟩ (ρl ++ ρf) obs s := by
  have up : ∀ b o, b ∉ wr → s₄.heap.get? b = some o → s.heap.get? b = some o := fun b o hb e => keep b (List.mem_range.mpr (Heap.lt_size e)) hb o (k₅ b o e)
  have hcl : ∀ x c, (clOf scope C.env).lookup x = some c → C.env.cells.lookup x = some c := fun x c h => by
    have hmem := mem_of_lookup h
    have := List.map_inj_left.mp cA _ hmem
    exact this
  have hL : s₄.heap.objs.size < s.heap.objs.size := hns.lt
  have hlow : ∀ b, b < C.he.objs.size → b ∉ wr := fun b hb h => Nat.lt_irrefl _ (Nat.lt_of_lt_of_le hb (hwr _ h).1)
  have h203 : ∀ b : Nat, b < 203 → b ∉ wr := fun b hb => hlow b (Nat.lt_of_lt_of_le hb S.sc.hi)
  have hcell : ∀ y c v, C.env.cells.lookup y = some c → s₄.heap.IsCell c v → s.heap.IsCell c v := fun y c v hc ⟨o, e, d⟩ => ⟨o, up _ _ (fun h => (hwr _ h).2.2.1 _ _ hc rfl) e, d⟩
  obtain ⟨mC, hmC, hρ⟩ := S.fr
  have hbs := S.wd.bs
  refine ⟨⟨Nat.le_trans S.wd.big (Nat.le_of_lt hL), Nat.le_trans S.wd.lt (Nat.le_of_lt hL), fun e => ?_, S.wd.big, fun x c hc => ?_, fun x y c h1 h2 => S.sc.cp x y c (hcl _ _ h1) (hcl _ _ h2), hkind, S.sc.gl, rfl⟩,
    ⟨⟨hbs.k, hbs.b, hbs.bt, hbs.lim, hbs.code, hbs.tab, hbs.big, hbs.bm⟩, Nat.le_trans S.wd.lt (Nat.le_of_lt hL), ⟨fun b o hb e => ?_, fun ps e => ?_⟩, ?_, ⟨rfl, rfl⟩, ⟨rfl, rfl⟩⟩, .refl _, ⟨m, hns, fun p hp => ?_⟩, fun p hp => ?_, S.nd, fun y c hc => ?_, Nat.le_refl _⟩
  · rw [show (scope.names.lookup (Str.ofString ".0")) = none from e] at h0; cases h0
  · obtain ⟨v, hv⟩ := S.ce x c (hcl _ _ hc)
    exact ⟨Nat.ne_of_lt hv.lt, (S.sc.cl _ _ (hcl _ _ hc)).2⟩
  · exact up _ _ (hlow _ (Nat.lt_of_lt_of_le (Heap.lt_size e) S.sc.hb)) (S.wd.kp.keep b o hb e)
  · obtain ⟨m, e⟩ := S.wd.kp.tab ps e
    exact ⟨m, up _ _ (h203 150 (by decide)) e⟩
  · obtain ⟨ps, h⟩ := S.wd.code
    exact ⟨ps, IsCode_of h (fun o e => up _ _ (h203 154 (by decide)) e) (fun o e => up _ _ (h203 150 (by decide)) e)⟩
  · rcases List.mem_append.mp hp with hp | hp
    · obtain ⟨a, b⟩ := hl p hp
      exact ⟨fun _ => b, fun k => absurd a k⟩
    · have hc := List.all_eq_true.mp cC p hp
      obtain ⟨c1, c2⟩ := Bool.and_eq_true_iff.mp hc
      have c1 := beq_iff_eq.mp c1
      refine ⟨fun k => ?_, fun _ => ?_⟩
      · rw [show scope.names.lookup p.1 = some .local from k] at c1; cases c1
      · obtain ⟨c, e1, e2⟩ := (hρ p (hf p hp)).2 (by simpa using c2)
        refine ⟨c, ?_, hcell _ _ _ e1 e2⟩
        have := List.map_inj_left.mp cB p hp
        exact this.trans e1
  · obtain ⟨a, b, c, d⟩ := S.ob p hp
    exact ⟨up _ _ (fun h => (hwr _ h).2.2.2 p hp rfl) a, b, Nat.ne_of_lt (Heap.lt_size a), fun x e h => d x e (hcl _ _ h)⟩
  · obtain ⟨v, hv⟩ := S.ce y c (hcl _ _ hc)
    exact ⟨v, hcell _ _ _ (hcl _ _ hc) hv⟩

theorem keeps_of {ρ' : Loc} {obs' : Led} {s s' : Shared} {W : Wc} {env : Env} (S : St ⟨frz W s, s.heap, env⟩ ρ' obs' s') : Keeps s s' := by
  obtain ⟨g1, g2⟩ := S.wd.bare
  obtain ⟨o1, o2⟩ := S.wd.os
  refine ⟨s'.heap, s'.toks, ?_, fun b o e => ?_⟩
  · obtain ⟨h, g, d, t, os⟩ := s'
    simp only at g1 o1 o2
    subst g1 o1 o2
    rfl
  · by_cases hb : b = 150
    · subst hb; rw [show s'.heap.get? 150 = s.heap.get? 150 from g2]; exact e
    · exact S.kp.keep b o hb e
end
end Mine
set_option maxRecDepth 100000
set_option Elab.async false
set_option linter.unusedVariables false
namespace Mine
open PySem PySem.W PySem.Spec PyProof.Rows PySem.Calls

section
variable {C : Cx} {A : Around} {E : Value → Shared → Prop} {ρ : Loc} {obs : Led}

/-- a generator in waiting: n items, the i-th such that F i -/
structure Gn (C : Cx) (A : Around) (ρ : Loc) (obs : Led) (a : Addr) (n : Nat) (F : Nat → Value → Prop) (s : Shared) : Prop where
  st : St C ρ obs s
  wk : ∃ fp wr g T, WalksS PR C.W.w A.in4 a fp wr (GenOnlyQ g) n F T ∧ T 0 s ∧ (∀ b ∈ fp, b < s.heap.objs.size) ∧ a ∈ fp ∧ ∀ b ∈ wr, Foreign C obs b
  ty : ∃ g, s.heap.IsGen a g

theorem Gn.typeIs {a : Addr} {n : Nat} {F : Nat → Value → Prop} {s : Shared} (G : Gn C A ρ obs a n F s) : s.TypeIs (.ref a) "generator" := let ⟨_, h⟩ := G.ty; h.typeIs
theorem WalksS.imp {prog : Program} {w : World} {A : Around} {I : Addr} {fp wr : List Addr} {G : Array GenState → Array GenState → Prop} {n m : Nat} {P P' : Nat → Value → Prop} {T : Nat → Shared → Prop}
    (W : WalksS prog w A I fp wr G n P T) (hn : n = m) (h : ∀ i v, i < n → P i v → P' i v) : WalksS prog w A I fp wr G m P' T := by
  subst hn
  exact { sub := W.sub, grefl := W.grefl, gtrans := W.gtrans, frame := W.frame, item := fun i s Q E hi st hQ => W.item i s Q E hi st fun v s' hp => hQ v s' (h i v hi hp), done := W.done, self := W.self }

theorem St.news {s₄ : Shared} {h₅ : Heap} {gens : Array GenState} {tk : Nat} (S : St C ρ obs s₄) (k : ∀ b o, s₄.heap.get? b = some o → h₅.get? b = some o) (hz : s₄.heap.objs.size ≤ h₅.objs.size)
    (hq : C.W.gq = bareQ) (hg : AllBare gens) : St C ρ obs { s₄ with gens := gens, toks := tk, heap := h₅ } :=
  St.to (s' := { s₄ with gens := gens, toks := tk, heap := h₅ }) S ⟨S.wd.bs, Nat.le_trans S.wd.lt hz, S.wd.kp.trans (.of_keep k), let ⟨ps, h⟩ := S.wd.code; ⟨ps, h.keeps k⟩, by rw [hq]; exact hg, S.wd.os⟩ (.of_keep k) hz

theorem St_codeX {pos : Pos} {q : Str} {scope : Scope} {s₂ : Shared} (S₂ : St C ρ obs s₂) (hq : C.W.gq = bareQ) (hcode : C.env.code = .ref 154) :
    wpAny (model PR C.W.w) A (genexprCode C.env pos q scope) (fun _ s₃ => St C ρ obs s₃ ∧ s₂.heap.objs.size ≤ s₃.heap.objs.size ∧ Heap.ExtBut 150 s₂.heap s₃.heap) E s₂ := by
  obtain ⟨ps, i1, i2⟩ := S₂.wd.table
  cases hf : codeAmong pos ps.toList with
  | some c' => exact wpAny_genexprCode_hit hcode i1 hf ⟨S₂, Nat.le_refl _, .refl _ _⟩
  | none =>
    refine wpAny_genexprCodeX hcode i1 i2 hf fun c' h' tk hx' hge hlt hcd _ htab _ => ?_
    have hz : s₂.heap.objs.size ≤ h'.objs.size := Nat.le_trans hge (Nat.le_of_lt hlt)
    have hinj : ∀ ps₀, s₂.heap.get? 150 = some (X.tableObj ps₀) → ps₀ = ps := fun ps₀ e => by
      rw [i2.2] at e; exact (table_inj (Option.some.inj e)).symm
    refine ⟨St.to S₂ ⟨S₂.wd.bs, Nat.le_trans S₂.wd.lt hz, ⟨fun b o hb e => hx' b o hb (S₂.wd.kp.keep b o hb e), fun ps₀ e => ?_⟩, ⟨_, hcd⟩, ?_, S₂.wd.os⟩ ⟨fun b o hb e => hx' b o hb e, fun ps₀ e => ?_⟩ hz, hz, hx'⟩
    · obtain ⟨more, e⟩ := S₂.wd.kp.tab ps₀ e
      have e2 := hinj _ e
      exact ⟨more ++ #[rawInt pos.line, rawInt pos.col, .ref c'], by rw [← Array.append_assoc, e2]; exact htab.2⟩
    · have := S₂.wd.bare
      rw [hq] at this ⊢
      exact this
    · have e2 := hinj _ e
      exact ⟨#[rawInt pos.line, rawInt pos.col, .ref c'], by rw [e2]; exact htab.2⟩

theorem Ev_gen {elt iter : Expr} {x : Str} {px : Pos} {scope : Scope} {pos : Pos} {n : Nat} {P F : Nat → Value → Prop} (ρf : Loc)
    (hq : C.W.gq = bareQ) (hh : A.handled = none) (hroom : A.depth < recursionLimit)
    (hiter : ∀ s, St C ρ obs s → wpAny (model PR C.W.w) A (eval iter C.env) (fun xv s₁ => wpAny (model PR C.W.w) A (pyIter xv) (fun it s₂ => St C ρ obs s₂ ∧ ∃ I fp wr T, it = .ref I ∧ (∀ A' : Around, A'.handled = none → Walks PR C.W.w A' I fp wr n P T) ∧
      T 0 s₂.heap ∧ (∀ b ∈ fp, b < s₂.heap.objs.size) ∧ (∀ b ∈ wr, Foreign C obs b) ∧ (150 : Nat) ∉ fp) E s₁) E s)
    (helt : ∀ (A' : Around) (E' : Value → Shared → Prop) (W' : Wc) (he : Heap) (L : Addr) (code : Value) i v, W'.w = C.W.w → A'.handled = none → A'.depth ≤ A.depth + 1 → i < n → P i v →
      Ev ⟨W', he, genEnv scope (clOf scope C.env) L code builtinsNs C.env⟩ A' E' ((x, v) :: ρf) obs elt (fun y _ => F i y))
    (hf : ∀ p ∈ ρf, p ∈ ρ)
    (hcode : C.env.code = .ref 154 := by kernel_rfl!)
    (cA : (clOf scope C.env).map (fun p => C.env.cells.lookup p.1) = (clOf scope C.env).map (fun p => some p.2) := by kernel_rfl!) (cB : ρf.map (fun p => (clOf scope C.env).lookup p.1) = ρf.map (fun p => C.env.cells.lookup p.1) := by kernel_rfl!)
    (cC : (ρf.all fun p => scope.names.lookup p.1 == some .free && !(C.env.kindOf p.1 == some .local)) = true := by kernel_rfl!)
    (hco : scope.isCoroutine = false := by kernel_rfl!) (hclos : closureFor scope C.env = pure (clOf scope C.env) := by kernel_rfl!) (hcell : (scope.names.all fun y => !(y.2 == .cell)) = true := by kernel_rfl!)
    (h0 : scope.names.lookup (Str.ofString ".0") = some NameKind.local := by kernel_rfl!) (hx : scope.names.lookup x = some .local := by kernel_rfl!) (hkind : scope.kind = .function := by kernel_rfl!)
    (hs : ∀ x, genFold iter C.env x = pure x := by intro _; with_unfolding_all rfl) :
    ∀ s, St C ρ obs s → wpAny (model PR C.W.w) A (eval (.GeneratorExp elt [⟨.Name x px, iter, [], 0⟩] scope pos) C.env) (fun r s' => ∃ a, r = .ref a ∧ Gn C A ρ obs a n F s') E s := fun s S => by
  refine wpAny_GeneratorExp_make hco hclos (fun y hy => by have := List.all_eq_true.mp hcell y hy; simpa using this) h0 hkind hroom (wpAny_mono (hiter s S) (fun xv s₁ h₁ => wpAny_mono h₁ (fun it s₂ h₂ => ?_) fun _ _ e => e) fun _ _ e => e) hs
  obtain ⟨S₂, I, fp, wr, T, rfl, Wk, ht, hfp, hwr, h150⟩ := h₂
  refine ⟨S₂.wd.lim, ?_⟩
  refine wpAny_mono (St_codeX S₂ hq hcode) (fun code s₃ h₃ => ?_) fun _ _ e => e
  obtain ⟨S₃, hz₃, hx₃⟩ := h₃
  have hbi := Tr_bifor (A := A) (E := E) (Q := fun b o => b = builtinsNs ∧ o = obs) ⟨rfl, rfl⟩ s₃ S₃
  obtain ⟨ob, b1, b2, b3, b4⟩ := bmod S₃.wd
  rw [S₃.sc.gl]
  refine wpAny_builtinsFor (ns3 S₃.wd.k) (g_bi C.W.w) (by decide) b1 b2 b3 b4 ?_
  intro h' hn' hs'
  have t₃ : T 0 s₃.heap := (Wk A hh).frame _ _ _ ht fun b hb o e => hx₃ b o (fun e' => h150 (e' ▸ hb)) e
  have hsz : h'.objs.size = s₃.heap.objs.size + 1 := by rw [hs'.1, Heap.size_push]
  have keep' : ∀ b o, s₃.heap.get? b = some o → h'.get? b = some o := fun b o e => hs'.extBut b o (Nat.ne_of_lt (Heap.lt_size e)) (Heap.get?_push_of_some _ e)
  have hfp₃ : ∀ b ∈ fp, b < s₃.heap.objs.size := fun b hb => Nat.lt_of_lt_of_le (hfp b hb) hz₃
  have hsub : ∀ b ∈ wr, b ∈ List.range s₃.heap.objs.size := fun b hb => List.mem_range.mpr (hfp₃ b ((Wk A hh).sub b hb))
  have haC : h'.objs.size ≠ s₃.heap.objs.size := by rw [hsz]; exact Nat.succ_ne_self _
  have haf : h'.objs.size ∉ List.range s₃.heap.objs.size := fun hm => by have := List.mem_range.mp hm; omega
  have hclt : cStatics < s₃.heap.objs.size := let ⟨_, hn, _⟩ := S₃.wd.lim; hn.lt
  have hcw : cStatics ∉ wr := fun h => by
    have h1 := (hwr _ h).1
    exact absurd (Nat.le_trans S₃.sc.hi h1) (by decide)
  have keep₅ : ∀ b o, s₃.heap.get? b = some o → (h'.push { cls := .type "generator", data := .fields #[.int s₃.gens.size 0, .str "<genexpr>" (s₃.toks + 1), .str (C.env.qual ++ "<genexpr>") (s₃.toks + 1 + 1)] }).get? b = some o :=
    fun b o e => Heap.get?_push_of_some _ (keep' b o e)
  have hbare : AllBare s₃.gens := by have := S₃.wd.bare; rw [hq] at this; exact this
  refine ⟨_, rfl, S₃.news keep₅ (by rw [Heap.size_push, hsz]; exact Nat.le_succ_of_le (Nat.le_succ _)) hq (hbare.push rfl), ⟨h'.objs.size :: s₃.heap.objs.size :: List.range s₃.heap.objs.size, s₃.heap.objs.size :: wr, s₃.gens.size,
    GenAt PR C.W.w A.in4 h'.objs.size s₃.gens.size s₃.heap.objs.size (List.range s₃.heap.objs.size) wr tt n F,
    WalksS.imp (WalksS.genexpQ (A := A.in4) hh _ _ _ _ wr tt n F haC haf hsub hroom (List.mem_range.mpr hclt) (Nat.ne_of_lt hclt) hcw) (by rw [tt_len]; rfl) (fun j v hj ⟨i, hi, hv⟩ => (tt_at hi).1 ▸ hv), ?_, ?_, List.mem_cons_self, ?_⟩, ⟨_, _, _, _, Heap.get?_push_size _ rfl, rfl, rfl, rfl⟩⟩
  · refine ⟨⟨_, _, _, Heap.get?_push_size _ rfl, rfl, rfl, rfl⟩, S₃.wd.lim.keeps keep₅, _, Array.getElem?_push_size .., fun s'' hal => ⟨rfl, ?_⟩⟩
    refine seg_startD (A := A.in4.in1) (cenv := genEnv scope (clOf scope C.env) s₃.heap.objs.size code builtinsNs C.env) (T := T) (P := fun i v => i < n ∧ P i v) hh
      (fun A' hA => ?_) F
      (h'.push { cls := .type "generator", data := .fields #[.int s₃.gens.size 0, .str "<genexpr>" (s₃.toks + 1), .str (C.env.qual ++ "<genexpr>") (s₃.toks + 1 + 1)] })
      hx (by simp [genEnv, hkind]) hco (fun hm => Nat.lt_irrefl _ (List.mem_range.mp hm)) ?_ s'' s'' _ ((Wk A hh).frame _ _ _ t₃ fun b hb o e => hal b (List.mem_cons_of_mem _ (List.mem_range.mpr (hfp₃ b hb))) o (keep₅ b o e))
      ((hn'.push _).at' fun o e => hal _ (List.mem_cons_self ..) o e) (GenSince.refl _ _ _) (fun b hb _ o e => hal b (List.mem_cons_of_mem _ hb) o e)
    · have Wm := (Wk A' hA).mono_fp (fp' := List.range s₃.heap.objs.size) fun b hb => List.mem_range.mpr (hfp₃ b hb)
      exact { sub := Wm.sub, frame := Wm.frame, item := fun i s Q E hi st hQ => Wm.item i s Q E hi st fun v h' tk hp => hQ v h' tk ⟨hi, hp⟩, done := Wm.done, self := Wm.self }
    · intro A' E' i v s m hA hd ⟨hi, hv⟩ hns hm hal2
      have SG := St_gen (ρl := [(x, v)]) (ρf := ρf) (code := code) (scope := scope) S₃ keep₅ hns hwr hal2 (fun p hp => by rw [List.mem_singleton.mp hp]; exact ⟨hx, hm⟩) hf h0 hkind cA cB cC
      refine wpAny_mono (helt A' E' (frz C.W s) s.heap s₃.heap.objs.size code i v rfl hA hd hi hv s SG) (fun y s' ⟨o', S', hy⟩ => ⟨hy, keeps_of S'⟩) fun _ _ e => e
  · intro b hb
    show b < (h'.push _).objs.size
    rw [Heap.size_push]
    rcases List.mem_cons.mp hb with rfl | hb
    · exact Nat.lt_succ_self _
    · rcases List.mem_cons.mp hb with rfl | hb
      · exact Nat.lt_succ_of_lt (by rw [hsz]; exact Nat.lt_succ_self _)
      · exact Nat.lt_succ_of_lt (Nat.lt_of_lt_of_le (List.mem_range.mp hb) (by rw [hsz]; exact Nat.le_succ _))
  · intro b hb
    rcases List.mem_cons.mp hb with rfl | hb
    · exact S₃.old (Nat.le_refl _)
    · exact hwr b hb

/-- the same over pairs: the element calls nothing -/
theorem Ev_genT {elt iter : Expr} {xa xb : Str} {pa pb pt : Pos} {kt : Nat} {scope : Scope} {pos : Pos} {n : Nat} {P : Nat → Array Value → Prop} {F : Nat → Value → Prop} (ρf : Loc)
    (hq : C.W.gq = bareQ) (hh : A.handled = none) (hroom : A.depth < recursionLimit)
    (hiter : ∀ s, St C ρ obs s → wpAny (model PR C.W.w) A (eval iter C.env) (fun xv s₁ => wpAny (model PR C.W.w) A (pyIter xv) (fun it s₂ => St C ρ obs s₂ ∧ ∃ I fp wr T Mid, it = .ref I ∧ (∀ A' : Around, A'.handled = none → WalksU PR C.W.w A' I fp wr n P T Mid) ∧
      T 0 s₂.heap ∧ (∀ b ∈ fp, b < s₂.heap.objs.size) ∧ (∀ b ∈ wr, Foreign C obs b) ∧ (150 : Nat) ∉ fp) E s₁) E s)
    (hsz : ∀ i vals, P i vals → ∃ va vb, vals = #[va, vb])
    (helt : ∀ (A' : Around) (E' : Value → Shared → Prop) (W' : Wc) (he : Heap) (L : Addr) (code : Value) i va vb, W'.w = C.W.w → A'.handled = none → i < n → P i #[va, vb] →
      Ev ⟨W', he, genEnv scope (clOf scope C.env) L code builtinsNs C.env⟩ A' E' ((xa, va) :: (xb, vb) :: ρf) obs elt (fun y _ => F i y))
    (hf : ∀ p ∈ ρf, p ∈ ρ)
    (hcode : C.env.code = .ref 154 := by kernel_rfl!)
    (cA : (clOf scope C.env).map (fun p => C.env.cells.lookup p.1) = (clOf scope C.env).map (fun p => some p.2) := by kernel_rfl!) (cB : ρf.map (fun p => (clOf scope C.env).lookup p.1) = ρf.map (fun p => C.env.cells.lookup p.1) := by kernel_rfl!)
    (cC : (ρf.all fun p => scope.names.lookup p.1 == some .free && !(C.env.kindOf p.1 == some .local)) = true := by kernel_rfl!)
    (hco : scope.isCoroutine = false := by kernel_rfl!) (hclos : closureFor scope C.env = pure (clOf scope C.env) := by kernel_rfl!) (hcell : (scope.names.all fun y => !(y.2 == .cell)) = true := by kernel_rfl!)
    (h0 : scope.names.lookup (Str.ofString ".0") = some NameKind.local := by kernel_rfl!) (hxa : scope.names.lookup xa = some .local := by kernel_rfl!) (hxb : scope.names.lookup xb = some .local := by kernel_rfl!) (hab : (xa == xb) = false := by kernel_rfl!) (hkind : scope.kind = .function := by kernel_rfl!)
    (hs : ∀ x, genFold iter C.env x = pure x := by intro _; with_unfolding_all rfl) :
    ∀ s, St C ρ obs s → wpAny (model PR C.W.w) A (eval (.GeneratorExp elt [⟨.Tuple [.Name xa pa, .Name xb pb] kt pt, iter, [], 0⟩] scope pos) C.env) (fun r s' => ∃ a, r = .ref a ∧ Gn C A ρ obs a n F s') E s := fun s S => by
  refine wpAny_GeneratorExp_walksQT hh hco hclos (fun y hy => by have := List.all_eq_true.mp hcell y hy; simpa using this) h0 hxa hxb (by simpa using hab) hkind hroom (wpAny_mono (hiter s S) (fun xv s₁ h₁ => wpAny_mono h₁ (fun it s₂ h₂ => ?_) fun _ _ e => e) fun _ _ e => e) hs
  obtain ⟨S₂, I, fp, wr, T, Mid, rfl, Wk, ht, hfp, hwr, h150⟩ := h₂
  refine ⟨S₂.wd.lim, ?_⟩
  refine wpAny_mono (St_codeX S₂ hq hcode) (fun code s₃ h₃ => ?_) fun _ _ e => e
  obtain ⟨S₃, hz₃, hx₃⟩ := h₃
  obtain ⟨ob, b1, b2, b3, b4⟩ := bmod S₃.wd
  rw [S₃.sc.gl]
  refine wpAny_builtinsFor (ns3 S₃.wd.k) (g_bi C.W.w) (by decide) b1 b2 b3 b4 ?_
  have hfp₃ : ∀ b ∈ fp, b < s₃.heap.objs.size := fun b hb => Nat.lt_of_lt_of_le (hfp b hb) hz₃
  have hcw : cStatics ∉ wr := fun h => absurd (Nat.le_trans S₃.sc.hi (hwr _ h).1) (by decide)
  have hbare : AllBare s₃.gens := by have := S₃.wd.bare; rw [hq] at this; exact this
  refine ⟨I, fp, wr, n, fun i v => i < n ∧ P i v, T, Mid, tt, F, rfl, fun A' hA => (Wk A' hA).bound, fun i v h => hsz i v h.2, (Wk A hh).frame _ _ _ ht fun b hb o e => hx₃ b o (fun e' => h150 (e' ▸ hb)) e, hfp₃, S₃.wd.lim, hcw, fun href k₅ => ?_, fun a h₅ tk gs hb hlt hsz₅ k₅ W0 G0 => ?_⟩
  · refine ⟨fun A' E' i va vb s m hA hv hns h1 h2 hal => ?_, fun A' E' i va vb s m hA hv hpz hns h1 h2 hal => ?_⟩
    · simp only [List.forIn_nil]
      exact wpAny_pure ⟨rfl, s.heap, s.toks, rfl, fun _ _ e => e⟩
    · have SG := St_gen (ρl := [(xa, va), (xb, vb)]) (ρf := ρf) (code := code) (scope := scope) S₃ k₅ hns hwr hal (fun p hp => by
        rcases List.mem_cons.mp hp with rfl | hp
        · exact ⟨hxa, h1⟩
        · rw [List.mem_singleton.mp hp]; exact ⟨hxb, h2⟩) hf h0 hkind cA cB cC
      refine wpAny_mono (helt A' E' (frz C.W s) s.heap s₃.heap.objs.size code i va vb rfl hA hv.1 hv.2 s SG) (fun y s' ⟨o', S', hy⟩ => ⟨hy, keeps_of S'⟩) fun _ _ e => e
  · refine ⟨a, rfl, S₃.news k₅ (by rw [hsz₅]; exact Nat.le_succ_of_le (Nat.le_of_lt hlt)) hq (hbare.push hb), ⟨_, _, _, _, WalksS.imp W0 (by rw [tt_len]; rfl) (fun j v hj ⟨i, hi, hv⟩ => (tt_at hi).1 ▸ hv), G0, ?_, List.mem_cons_self, ?_⟩, _, G0.1⟩
    · intro b hb
      show b < h₅.objs.size
      rw [hsz₅]
      rcases List.mem_cons.mp hb with rfl | hb
      · exact Nat.lt_succ_self _
      · rcases List.mem_cons.mp hb with rfl | hb
        · exact Nat.lt_succ_of_lt hlt
        · exact Nat.lt_succ_of_lt (Nat.lt_trans (List.mem_range.mp hb) hlt)
    · intro b hb
      rcases List.mem_cons.mp hb with rfl | hb
      · exact S₃.old (Nat.le_refl _)
      · exact hwr b hb
end
end Mine
set_option maxRecDepth 100000
set_option Elab.async false
set_option linter.unusedVariables false
namespace Mine
open PySem PySem.W PySem.Spec PyProof.Rows PySem.Calls

section
variable {C : Cx} {A : Around} {E : Value → Shared → Prop} {ρ : Loc} {obs : Led}

theorem Ev_callB_raw {x : Str} {xp pos : Pos} {e : Expr} {r : List Expr} {id : String} {Q : Value → Led → Prop} (hb : bootBuiltins x = some (.builtin id))
    (h : ∀ s, St C ρ obs s → wpAny (model PR C.W.w) A (spliced (backTo pos (starEach (e :: r) C.env))) (fun vs s1 => wpAny (model PR C.W.w) A (call (.builtin id) vs) (fun v s2 => ∃ o, St C ρ o s2 ∧ Q v o) E s1) E s) (hv : gvar C.W.w x = none := by kernel_rfl!) (hk : C.env.kindOf x = some .globalImplicit := by kernel_rfl!)
    (hd : (x == ("__debug__" : Str) || x == ("__name__" : Str)) = false := by decide +kernel) (he : starEach (e :: r) C.env = (false, eval e C.env) :: starEach r C.env := by with_unfolding_all rfl)
    (hp : (backTo pos (starEach r C.env)).any (·.1) = false := by with_unfolding_all rfl) : Ev C A E ρ obs (.Call (.Name x xp) (e :: r) [] pos) Q := fun s hs =>
  Call_ (wpAny_mono (Ev_bi (C := C) (A := A) (E := E) (ρ := ρ) (obs := obs) (Q := fun v o => v = .builtin id ∧ o = obs) hb ⟨rfl, rfl⟩ hv hk hd s hs) (fun v s1 ⟨o, h1, q1⟩ => by
    obtain ⟨rfl, rfl⟩ := q1
    exact PyProof.Rows.callWith_builtin1 (h s1 h1) he hp) fun _ _ x => x)
theorem Ev_callT_raw {x : Str} {xp pos : Pos} {e : Expr} {r : List Expr} {T : String} {Q : Value → Led → Prop} (hb : bootBuiltins x = some (.type T))
    (h : ∀ s, St C ρ obs s → wpAny (model PR C.W.w) A (spliced (backTo pos (starEach (e :: r) C.env))) (fun vs s1 => wpAny (model PR C.W.w) A (call (.type T) vs) (fun v s2 => ∃ o, St C ρ o s2 ∧ Q v o) E s1) E s) (hv : gvar C.W.w x = none := by kernel_rfl!) (hk : C.env.kindOf x = some .globalImplicit := by kernel_rfl!)
    (hd : (x == ("__debug__" : Str) || x == ("__name__" : Str)) = false := by decide +kernel) (he : starEach (e :: r) C.env = (false, eval e C.env) :: starEach r C.env := by with_unfolding_all rfl)
    (hp : (backTo pos (starEach r C.env)).any (·.1) = false := by with_unfolding_all rfl) : Ev C A E ρ obs (.Call (.Name x xp) (e :: r) [] pos) Q := fun s hs =>
  Call_ (wpAny_mono (Ev_bi (C := C) (A := A) (E := E) (ρ := ρ) (obs := obs) (Q := fun v o => v = .type T ∧ o = obs) hb ⟨rfl, rfl⟩ hv hk hd s hs) (fun v s1 ⟨o, h1, q1⟩ => by
    obtain ⟨rfl, rfl⟩ := q1
    exact PyProof.Rows.callWith_type1 (h s1 h1) he hp) fun _ _ x => x)

theorem St.moved {s s' : Shared} {wr : List Addr} {g : Nat} (S : St C ρ obs s) (hg : C.env.scope.names.lookup (Str.ofString ".0") = none) (hq : C.W.gq = bareQ) (M : Moved wr (GenOnlyQ g) s s') (hwr : ∀ b ∈ wr, Foreign C obs b) : St C ρ obs s' :=
  S.shift hg M.heap hwr (by rw [hq]; have := S.wd.bare; rw [hq] at this; exact M.gens.bare this) M.os (by rw [M.drawn]; exact S.wd.os.2)

/-- sum over a generator expression -/
theorem Ev_sum_gen {g : Expr} {xp pos : Pos} {n : Nat} {F : Nat → Value → Prop} {Q : Value → Led → Prop} (val : Nat → Int) (hq : C.W.gq = bareQ)
    (hgen : ∀ s, St C ρ obs s → wpAny (model PR C.W.w) A (eval g C.env) (fun r s' => ∃ a, r = .ref a ∧ Gn C A ρ obs a n F s') E s)
    (hval : ∀ i v, F i v → ∃ t, v = .int (val i) t) (hfit : ∀ j, j < n → InLong (val j) ∧ InLong (preSum val (j + 1))) (hQ : ∀ t, Q (.int (preSum val n) t) obs)
    (hg : C.env.scope.names.lookup (Str.ofString ".0") = none := by kernel_rfl!)
    (hv : gvar C.W.w (Str.ofString "sum") = none := by kernel_rfl!) (hk : C.env.kindOf (Str.ofString "sum") = some .globalImplicit := by kernel_rfl!)
    (he : starEach [g] C.env = (false, eval g C.env) :: starEach [] C.env := by with_unfolding_all rfl)
    (hp : (backTo pos (starEach [] C.env)).any (·.1) = false := by with_unfolding_all rfl) : Ev C A E ρ obs (.Call (.Name (Str.ofString "sum") xp) [g] [] pos) Q := by
  refine Ev_callB_raw b_sum (fun s S => args_cons (wpAny_mono (hgen s S) (fun r s1 ⟨a, e, G⟩ => ?_) fun _ _ x => x) he) hv hk (by decide +kernel) he hp
  subst e
  refine args_nil ?_
  obtain ⟨fp, wr, g', T, Wk, ht, hfp, ha, hwr⟩ := G.wk
  have W1 := WalksS.in4_1 Wk
  exact call_sum_walkS (W1.self 0 _ _ _ ht ⟨a, fp, wr, _, n, _, _, val, rfl, W1, ht, hfp, hval, hfit, fun s' t' hm => ⟨obs, G.st.moved hg hq hm hwr, hQ t'⟩⟩)
end

theorem sub_gen_set : isSubtype (.type "generator") (.type "set") = pure false := by rw [isSubtype_type]; kernel_rfl
theorem sub_gen_frozenset : isSubtype (.type "generator") (.type "frozenset") = pure false := by rw [isSubtype_type]; kernel_rfl

def setO (led : Bool) : Obj := { cls := .type "set", dict := none, data := .set #[] 0 (.fresh 0 0 led) }

theorem callType_chk {prog : Program} {w : World} {A : Around} {E : Value → Shared → Prop} {s : Shared} {T newId initId : String} {Bi : Builtin} {args : List Value} {Q Q₁ : Value → Shared → Prop} (ft : TypeCalled T newId initId)
    (hct : checkTypeCall T ⟨args, []⟩ = pure ()) (entryI : entryFor table initId = some Bi)
    (hnew : codeAny (model prog w) A.in1 (.call (.builtin newId) ⟨.type T :: args, []⟩) (wants Q₁ E) s)
    (hnext : ∀ obj s₁, Q₁ obj s₁ → s₁.TypeIs obj T ∧ (∀ (M : Model) (A' : Around) (E' : Value → Shared → Prop) (Q' : Unit → Shared → Prop), Q' () s₁ → wpAny M A' (checkBuiltinCall initId ⟨obj :: args, []⟩) Q' E' s₁) ∧
      wpAny (model prog w) A.in1.in1 (Bi ⟨obj :: args, []⟩)
        (fun fin s' => match fin with | .done f => wants (fun r s₂ => r = .none ∧ Q obj s₂) E (.ok f) s' | .again c' => c'.quiet = true ∧ codeAny (model prog w) A.in1 c' (wants (fun r s₂ => r = .none ∧ Q obj s₂) E) s')
        (fun e s' => wants (fun r s₂ => r = .none ∧ Q obj s₂) E (.error e) s') s₁) :
    wpAny (model prog w) A (call (.type T) args) Q E s := by
  obtain ⟨c, tl, hmro⟩ := ft.mro
  have hmade := ft.made
  have hsub := ft.sub
  refine wpAny_call (codeAny_of_tree ?_)
  show wpAny _ _ (callAny (.type T) _) _ _ _
  refine wpAny_pure ⟨Code.quiet_builtin _ (by decide +kernel), codeAny_builtin F.entry_type_call ?_⟩
  rw [Around.under_plain (weight_type_call_type T args []) rfl]
  have h1 := ft.notType
  have h2 := ft.canCreate
  repeat (any_goals (first | assumption | wp_step))
  refine codeAny_mono hnew fun r s₁ hr => ?_
  cases r with
  | error e => exact hr
  | ok fl =>
    cases fl with
    | ret obj =>
      obtain ⟨hT, hok, hsi⟩ := hnext _ _ hr
      have hli := ft.init.lookup
      have hbi := ft.init.bind obj
      clear hnext hnew
      repeat (any_goals (first | assumption | wp_step))
      refine codeAny_mono (codeAny_call_builtin ft.init.plain entryI (hok _ _ _ _ hsi)) fun r₂ s₂ hr₂ => ?_
      cases r₂ with
      | error e => exact hr₂
      | ok fl₂ =>
        cases fl₂ with
        | ret r =>
          obtain ⟨rfl, hq⟩ := hr₂
          repeat (any_goals (first | assumption | wp_step))
        | next => exact hr₂.elim
        | brk => exact hr₂.elim
        | cont => exact hr₂.elim
    | next => exact hr.elim
    | brk => exact hr.elim
    | cont => exact hr.elim

theorem set_init_body {M : Model} {A : Around} {E : Value → Shared → Prop} {s : Shared} {a : Addr} {led : Bool} {v : Value} {Q : Fin → Shared → Prop} (h : s.heap.get? a = some (setO led))
    (hq : wpAny M A (Builtin.Frozenset.updateFrom "set.__init__" a v) (fun _ s' => Q (.done (.ret .none)) s') E s) : wpAny M A (Builtin.«set.__init__» ⟨[.ref a, v], []⟩) Q E s := by
  unfold Builtin.«set.__init__» noKeywords
  generalize hPI : Builtin.Frozenset.updateFrom = PI
  rw [hPI] at hq
  unfold setO at *
  have hT : s.TypeIs (.ref a) "set" := ⟨_, h, rfl⟩
  wp_walk
  exact wpAny_mono hq (fun _ s' hq => wpAny_pure hq) fun _ _ x => x

theorem call_set_any {prog : Program} {w : World} {A : Around} {E : Value → Shared → Prop} {s : Shared} {v : Value} {Q : Value → Shared → Prop}
    (h : ∀ led : Bool, wpAny (model prog w) A.in1.in1 (Builtin.Frozenset.updateFrom "set.__init__" s.heap.objs.size v) (fun _ s' => Q (.ref s.heap.objs.size) s') E { s with heap := s.heap.push (setO led) }) :
    wpAny (model prog w) A (call (.type "set") [v]) Q E s := by
  refine callType_chk F.called_set (PySem.F.typeCall_set_1 v) F.entry_set_init (code_set_new_1 v (Q₁ := fun obj s₁ => ∃ led : Bool, obj = .ref s.heap.objs.size ∧ s₁ = { s with heap := s.heap.push (setO led) }) fun led => ⟨led, rfl, rfl⟩) fun obj s₁ hr => ?_
  obtain ⟨led, rfl, rfl⟩ := hr
  have hS : (s.heap.push (setO led)).get? s.heap.objs.size = some (setO led) := Heap.get?_push_size _ rfl
  have hT : Shared.TypeIs { s with heap := s.heap.push (setO led) } (.ref s.heap.objs.size) "set" := ⟨_, hS, rfl⟩
  exact ⟨hT, fun M A' E' Q' hQ => check_set_init_1 hT hQ, set_init_body hS (wpAny_mono (h led) (fun _ s' hq => ⟨rfl, hq⟩) fun _ _ x => x)⟩

theorem set_update_gen {prog : Program} {w : World} {A : Around} {E : Value → Shared → Prop} {s : Shared} {a S : Addr} {n : Nat} {fp wr : List Addr} {g : Nat} {P : Nat → Value → Prop} {T : Nat → Shared → Prop} {led : Bool} {Q : Unit → Shared → Prop} (val : Nat → Int)
    (W3 : WalksS prog w A.in1 a fp wr (GenOnlyQ g) n P T) (hT0 : T 0 s) (hty : s.TypeIs (.ref a) "generator") (hSf : S ∉ fp) (hS : s.heap.get? S = some (setO led)) (hval : ∀ i v, P i v → ∃ t, v = .int (val i) t) (hb : n + 1 < scanBound)
    (h : ∀ s', Moved (S :: wr) (GenOnlyQ g) s s' → s'.heap.SetOf (intKind prog w) S (fun k' => (firstMet val n).any (· == k')) (firstMet val n).length → Q () s') :
    wpAny (model prog w) A (Builtin.Frozenset.updateFrom "set.__init__" S (.ref a)) Q E s := by
  have W2 : WalksS prog w A a fp wr (GenOnlyQ g) n P T := WalksS.of_in1 W3
  have hne : (Value.type "generator" == Value.type "dict") = false := by decide
  unfold Builtin.Frozenset.updateFrom
  have fin : wpAny (model prog w) A (pyIter (.ref a)) (fun it s' => wpAny (model prog w) A (do
      let _ ← runValue (.builtin "set.update.loop" ⟨[.ref S, it], []⟩)
      pure ()) Q E s') E s := by
    refine W2.self 0 _ _ _ hT0 (wpAny_bind (wpAny_runValue ?_))
    refine codeAny_set_update_loopS W3 S hSf val hval hb (n - 0) 0 _ rfl (Nat.zero_le _) hT0 ?_ ?_
    · exact SetOf_congr ((setObjOf_fresh (knd := intKind prog w) led).setOf hS (by unfold scanBound; omega)) (fun _ => rfl) rfl
    · exact fun s' hm hS' => wpAny_pure (h s' hm hS')
  clear h hval hSf hS
  generalize hPI : pyIter = PI
  rw [hPI] at fin
  have hsls := sub_gen_set
  have hslf := sub_gen_frozenset
  clear W2 W3
  wp_walk
  exact fin
end Mine
set_option maxRecDepth 100000
set_option Elab.async false
set_option linter.unusedVariables false
namespace Mine
open PySem PySem.W PySem.Spec PyProof.Rows PySem.Calls

/-- a set of these ints -/
def SetI (w : World) (o : Obj) (l : List Int) : Prop := ∃ es ep t, o.ExactSet ∧ o.data = .set es ep t ∧ ElemsOf (intKind PR w) es.toList ∧ (∀ k, (l.any (· == k)) = true ↔ ∃ e ∈ es.toList, (intKind PR w).is k e.2 = true) ∧ es.size < scanBound ∧ t.fits es.size = true ∧ es.size = l.length
theorem SetI.at {w : World} {o : Obj} {l : List Int} (x : SetI w o l) {h : Heap} {a : Addr} (e : h.get? a = some o) : h.SetOf (intKind PR w) a (fun k => l.any (· == k)) l.length :=
  let ⟨es, ep, t, r⟩ := x; ⟨o, es, ep, t, e, r⟩

theorem wpAny_choose {M : Model} {A : Around} {E : Value → Shared → Prop} {s : Shared} {src : Source} {n : Nat} {Q : Nat → Shared → Prop} (hn : n ≠ 0) (h : ∀ i, i < n → Q i { s with drawn := s.drawn.bump src }) : wpAny M A (choose src n) Q E s :=
  fun Γ p hΓ => ⟨hn, h _ (Nat.mod_lt _ (Nat.pos_of_ne_zero hn))⟩

theorem wpAny_setPop1 {w : World} {A : Around} {E : Value → Shared → Prop} {s : Shared} {a : Addr} {o : Obj} {k : Int} {Q : Option Value → Shared → Prop} (ho : s.heap.get? a = some o) (x : SetI w o [k])
    (h : ∀ t h' d, Heap.SameBut a s.heap h' → Q (some (.int k t)) { s with heap := h', drawn := d }) : wpAny (model PR w) A (setPop a) Q E s := by
  obtain ⟨es, ep, t, hex, hd, hel, hmem, hb, hf, hsz⟩ := x
  have hlen : es.toList.length = 1 := by simpa using hsz
  obtain ⟨e, he⟩ := List.length_eq_one_iff.mp hlen
  have hes : es = #[e] := by rw [← Array.toArray_toList (xs := es), he]
  subst hes
  obtain ⟨e', he', hk⟩ := (hmem k).mp (by simp)
  have : e' = e := by simpa using he'
  subst this
  obtain ⟨tk, hv⟩ : ∃ tk, e'.2 = .int k tk := by
    generalize e'.2 = v at hk
    cases v <;> simp [intKind, Value.isInt] at hk
    exact ⟨_, by rw [hk]⟩
  have hpl : t.place.size = 1 := by
    simp only [SetTable.fits, Bool.and_eq_true, beq_iff_eq] at hf
    simpa using hf.1
  unfold setPop
  refine wpAny_bind (wpAny_setState_of ho hd hf ?_)
  have hp : ∃ i, t.popPlace = some i ∧ i < 1 := by
    unfold SetTable.popPlace
    rw [if_neg (by simp [Array.isEmpty, hpl])]
    refine ⟨_, rfl, ?_⟩
    split
    · rename_i h1; rw [hpl] at h1; exact h1
    · exact Nat.one_pos
  obtain ⟨i, hi, hi1⟩ := hp
  have fin : ∀ (j : Nat) (d : Drawn), j < 1 → wpAny (model PR w) A (match (#[e'] : Array (Int × Value))[j]? with
      | some (_, x) => do
        storeSet a (SetTable.eraseAt #[e'] j) (t.popped j)
        pure (some x)
      | _ => unsupported "internal:set.pop") Q E { s with drawn := d } := by
    intro j d hj
    have : j = 0 := by omega
    subst this
    show wpAny _ _ (storeSet a (SetTable.eraseAt #[e'] 0) (t.popped 0) >>= fun _ => pure (some e'.2)) _ _ _
    refine wpAny_bind (wpAny_storeSet_of (s := { s with drawn := d }) ho hd ?_ (by simp [SetTable.eraseAt]))
    rw [hv]
    exact wpAny_pure (h tk _ d (Heap.SameBut.update ..))
  dsimp only
  rw [hi]
  dsimp only
  unfold setsByText
  refine wpAny_bind (wpAny_bind (wpAny_askSetting (wpAny_pure ?_)))
  dsimp only
  split
  · exact wpAny_bind (wpAny_choose (by simp) fun j hj => fin j _ hj)
  · refine wpAny_bind ?_
    show wpAny _ _ (if ((!t.led && decide ((1 : Nat) > 1)) = true) then _ else _) _ _ _
    rw [if_neg (by simp)]
    exact wpAny_pure (wpAny_bind (wpAny_pure (fin i s.drawn hi1)))

section
variable {C : Cx} {A : Around} {E : Value → Shared → Prop} {ρ : Loc} {obs : Led}

theorem St.add {s : Shared} {p : Addr × Obj} (S : St C ρ obs s) (e : s.heap.get? p.1 = some p.2) (hf : Foreign C obs p.1) : St C ρ (p :: obs) s := by
  refine ⟨S.sc, S.wd, S.kp, S.fr, fun q hq => ?_, ?_, S.ce, S.sz⟩
  · rcases List.mem_cons.mp hq with rfl | hq
    · exact ⟨e, far_of (Nat.le_trans S.sc.hi hf.1), hf.2.1, hf.2.2.1⟩
    · exact S.ob q hq
  · rw [List.map_cons, List.nodup_cons]
    refine ⟨fun hm => ?_, S.nd⟩
    obtain ⟨q, hq, e⟩ := List.mem_map.mp hm
    exact hf.2.2.2 q hq e

theorem ex_forall {w : World} {h : Heap} {a : Addr} {l : List Int} (x : h.SetOf (intKind PR w) a (fun k => l.any (· == k)) l.length) : ∃ o, h.get? a = some o ∧ SetI w o l :=
  let ⟨o, es, ep, t, e, r⟩ := x; ⟨o, e, es, ep, t, r⟩

/-- set over a generator expression -/
theorem Ev_set_gen {g : Expr} {xp pos : Pos} {n : Nat} {F : Nat → Value → Prop} {Q : Value → Led → Prop} (val : Nat → Int) (hq : C.W.gq = bareQ)
    (hgen : ∀ s, St C ρ obs s → wpAny (model PR C.W.w) A (eval g C.env) (fun r s' => ∃ a, r = .ref a ∧ Gn C A ρ obs a n F s') E s)
    (hval : ∀ i v, F i v → ∃ t, v = .int (val i) t) (hb : n + 1 < scanBound) (hQ : ∀ a o, C.he.objs.size ≤ a → SetI C.W.w o (firstMet val n) → Q (.ref a) ((a, o) :: obs))
    (hg : C.env.scope.names.lookup (Str.ofString ".0") = none := by kernel_rfl!)
    (hv : gvar C.W.w (Str.ofString "set") = none := by kernel_rfl!) (hk : C.env.kindOf (Str.ofString "set") = some .globalImplicit := by kernel_rfl!)
    (he : starEach [g] C.env = (false, eval g C.env) :: starEach [] C.env := by with_unfolding_all rfl)
    (hp : (backTo pos (starEach [] C.env)).any (·.1) = false := by with_unfolding_all rfl) : Ev C A E ρ obs (.Call (.Name (Str.ofString "set") xp) [g] [] pos) Q := by
  refine Ev_callT_raw b_set (fun s S => args_cons (wpAny_mono (hgen s S) (fun r s1 ⟨a, e, G⟩ => ?_) fun _ _ x => x) he) hv hk (by decide +kernel) he hp
  subst e
  refine args_nil ?_
  obtain ⟨fp, wr, g', T, Wk, ht, hfp, ha, hwr⟩ := G.wk
  refine call_set_any fun led => ?_
  have hSf : s1.heap.objs.size ∉ fp := fun hm => Nat.lt_irrefl _ (hfp _ hm)
  have S1 := G.st.push (setO led) rfl
  have hty : Shared.TypeIs { s1 with heap := s1.heap.push (setO led) } (.ref a) "generator" := by
    obtain ⟨o, e, hc⟩ := G.typeIs
    exact ⟨o, Heap.get?_push_of_some _ e, hc⟩
  refine set_update_gen val (WalksS.of_in1 (A := A.in1.in1.in1) Wk) (Wk.frame 0 s1 _ s1.toks ht (Nat.le_refl _) fun b _ o e => Heap.get?_push_of_some _ e) hty hSf (Heap.get?_push_size _ rfl) hval hb fun s' hm hS => ?_
  obtain ⟨o, e, hI⟩ := ex_forall hS
  have hold := G.st.old (Nat.le_refl s1.heap.objs.size)
  have S2 : St C ρ obs s' := (S1.sb (fun _ h => h) (.skip (.refl _))).moved hg hq hm (fun b hb => by
    rcases List.mem_cons.mp hb with rfl | hb
    · exact hold
    · exact hwr b hb)
  exact ⟨_, S2.add (p := (s1.heap.objs.size, o)) e hold, hQ _ o G.st.sz hI⟩

theorem Tr_len_set {a : Addr} {o : Obj} {l : List Int} {Q : Value → Led → Prop} (ho : (a, o) ∈ obs) (hl : SetI C.W.w o l) (h : ∀ t, Q (.int l.length t) obs) : Tr C A E ρ obs (call (.builtin "len") [.ref a]) Q := fun s S => by
  obtain ⟨es, ep, t, hex, hd, hel, hmem, hb, hf, hsz⟩ := hl
  refine call_len_set (S.ob _ ho).1 hex hd hf ?_ ?_
  · have : scanBound = 4096 := rfl
    omega
  · rw [hsz]
    exact ⟨obs, (S.tok _).tok _, h _⟩
theorem Tr_in_set {a : Addr} {o : Obj} {l : List Int} {k : Int} {u : Tok} {Q : Value → Led → Prop} (ho : (a, o) ∈ obs) (hl : SetI C.W.w o l) (h : Q (.bool (l.any (· == k))) obs) : Tr C A E ρ obs (compareOp .In (.int k u) (.ref a)) Q := fun s S =>
  wpAny_inSet_of (knd := intKind PR C.W.w) (intKind_is _ _ _ _) rfl (hl.at (S.ob _ ho).1) ⟨obs, S.tok _, h⟩

/-- x.pop() of a set of one int, that is ours -/
theorem Ev_pop {v : Expr} {ap pos : Pos} {k : Int} {Q : Value → Led → Prop} (hq : C.W.dq = fun _ => True)
    (h : Ev C A E ρ obs v fun r o1 => ∃ a o rest, r = .ref a ∧ o1 = (a, o) :: rest ∧ C.he.objs.size ≤ a ∧ SetI C.W.w o [k] ∧ ∀ t, Q (.int k t) rest)
    (hg : C.env.scope.names.lookup (Str.ofString ".0") = none := by kernel_rfl!)
    (hbase : attributeBase v (Str.ofString "pop") C.env (eval v C.env) = eval v C.env := by with_unfolding_all rfl) (hline : (ap.endLine == pos.line) = true := by kernel_rfl!) :
    Ev C A E ρ obs (.Call (.Attribute v (Str.ofString "pop") ap) [] [] pos) Q := fun s S => by
  refine wpAny_Call_method (T := "set") (id := "set.pop") hbase (by rfl) hline F.plainAttrs_set F.slot_set_pop F.type_set_pop (wpAny_mono (h s S) (fun r s1 ⟨o1, S1, a, o, rest, e1, e2, ha, hI, hQ⟩ => ?_) fun _ _ x => x)
  subst e1 e2
  have hget := (S1.ob _ List.mem_cons_self).1
  have hSo := hI.at hget
  refine ⟨hSo.typeIs, hSo.noDict, callWith_method0 ?_⟩
  refine wpAny_call_entry F.slot_set_pop hSo.typeIs F.entry_set_pop ?_ (F.args_set_pop_1 _)
  unfold Builtin.«set.pop» Builtin.Frozenset.noArgs
  simp only [List.isEmpty_nil]
  unfold Builtin.Frozenset.addrOf
  refine wpAny_bind (wpAny_pure ?_)
  refine wpAny_bind (wpAny_setPop1 hget hI fun t h' d hs => ?_)
  refine wpAny_pure ⟨_, rfl, ?_⟩
  have S2 := S1.ext ha hs.extBut (by rw [hs.1]; exact S1.sz)
  refine ⟨rest, ?_, hQ t⟩
  exact S2.shift (s' := { s1 with heap := h', drawn := d }) (wr := []) hg (fun b o _ e => e) (fun b hb => nomatch hb) S2.wd.bare rfl (by rw [hq]; trivial)
end
end Mine
set_option maxRecDepth 100000
set_option Elab.async false
set_option linter.unusedVariables false
namespace Mine
open PySem PySem.W PySem.Spec PyProof.Rows PySem.Calls PySem.W.KBw

section
variable {prog : Program} {w : World} {A : Around} {E : Value → Shared → Prop} {s : Shared}

theorem nextB_item {it : Addr} {b : Array UInt8} {t : Tok} {i : Nat} {c : UInt8} {Q : Value → Shared → Prop} (hit : IsBytesIter s.heap it b t i) (hx : b[i]? = some c)
    (hQ : ∀ h', IsBytesIter h' it b t (i + 1) → Heap.SameBut it s.heap h' → Q (.int (c.toNat : Int) s.toks) { s with heap := h', toks := s.toks + 1 }) : wpAny (model prog w) A (Builtin.SmallTypes.nextOf (.ref it)) Q E s := by
  obtain ⟨o, ho, hc, hd⟩ := id hit
  unfold Builtin.SmallTypes.nextOf
  refine wpAny_bind (wpAny_callSpecial?_slot (name := PySem.Str.ofString "__next__") (iter_typeIs hit) slot_next (wpAny_call_entry slot_next (iter_typeIs hit) entry_next ?_ (args_next _)))
  show wpAny _ _ (field (.ref it) 0 >>= _) _ _ s
  refine wpAny_bind (wpAny_field ho hd (x := .bytes b t) rfl ?_)
  show wpAny _ _ (if (Value.bytes b t == Value.none) = true then _ else _) _ _ s
  rw [if_neg (show ¬ ((Value.bytes b t == Value.none) = true) from Bool.false_ne_true)]
  show wpAny _ _ (field (.ref it) 1 >>= _) _ _ s
  refine wpAny_bind (wpAny_field ho hd (x := .int i 0) rfl ?_)
  refine wpAny_bind (wpAny_of_eq (a := b) rfl ?_)
  simp only [Int.toNat_natCast, hx]
  refine wpAny_bind (wpAny_setField ho hd (by simp) (wpAny_bind (wpAny_mkInt (wpAny_pure ⟨_, rfl, wpAny_pure (hQ _ ?_ (Heap.SameBut.update ..))⟩))))
  exact ⟨_, Heap.get?_update_self _ ho (Obj.isFreed_of_fields (Obj.data_mapFields hd _)), (Obj.cls_mapFields ..).trans hc, by
    rw [Obj.data_mapFields hd]; simp [rawInt]⟩

theorem nextB_end {it : Addr} {b : Array UInt8} {t : Tok} {i : Nat} {Q : Value → Shared → Prop} (hh : A.handled = none) (hit : IsBytesIter s.heap it b t i) (hx : b[i]? = none)
    (hE : ∀ h' e, Heap.ExtBut it s.heap h' → (∃ o, h'.get? e = some o ∧ o.cls = .type "StopIteration") → E (.ref e) { s with heap := h' }) : wpAny (model prog w) A (Builtin.SmallTypes.nextOf (.ref it)) Q E s := by
  obtain ⟨o, ho, hc, hd⟩ := id hit
  unfold Builtin.SmallTypes.nextOf
  refine wpAny_bind (wpAny_callSpecial?_slot (name := PySem.Str.ofString "__next__") (iter_typeIs hit) slot_next (wpAny_call_entry slot_next (iter_typeIs hit) entry_next ?_ (args_next _)))
  show wpAny _ _ (field (.ref it) 0 >>= _) _ _ s
  refine wpAny_bind (wpAny_field ho hd (x := .bytes b t) rfl ?_)
  show wpAny _ _ (if (Value.bytes b t == Value.none) = true then _ else _) _ _ s
  rw [if_neg (show ¬ ((Value.bytes b t == Value.none) = true) from Bool.false_ne_true)]
  show wpAny _ _ (field (.ref it) 1 >>= _) _ _ s
  refine wpAny_bind (wpAny_field ho hd (x := .int i 0) rfl ?_)
  refine wpAny_bind (wpAny_of_eq (a := b) rfl ?_)
  simp only [Int.toNat_natCast, hx]
  refine wpAny_bind (wpAny_rule (wpAny_bind (wpAny_setField ho hd (by simp) ?_)))
  show wpAny _ _ (newExc (.type "StopIteration") [] >>= _) _ _ _
  refine wpAny_bind ?_
  simp only [newExc, newTuple]
  refine wpAny_bind (wpAny_newObj_type ?_ (by size_fits))
  refine wpAny_bind (m := firstArgMember _ _) (wpAny_of_eq (a := Value.none) (by first | rfl | (simp only [firstArgMember]; rfl)) ?_)
  refine wpAny_newObj_type ?_ (by size_fits)
  simp only [raiseNew]
  refine wpAny_bind (wpAny_handled ?_)
  first | rw [show A.in1.handled = none from hh] | rw [hh]
  refine wpAny_bind (wpAny_pure (wpAny_throw ?_))
  exact hE _ _ (((Heap.SameBut.update ..).extBut.push _).push _) ⟨_, Heap.get?_push_size _ rfl, rfl⟩

structure Dz (z TI TO i1 i2 : Addr) : Prop where
  TIz : TI ≠ z
  TOz : TO ≠ z
  i1z : i1 ≠ z
  i2z : i2 ≠ z
  TITO : TI ≠ TO
  TIi1 : TI ≠ i1
  TIi2 : TI ≠ i2
  TOi1 : TO ≠ i1
  TOi2 : TO ≠ i2
  i12 : i1 ≠ i2

variable {z TI TO i1 i2 : Addr} {b1 b2 : Array UInt8} {t1 t2 : Tok}
theorem IsBI_ext {h h' : Heap} {a c : Addr} {b : Array UInt8} {t : Tok} {i : Nat} (x : IsBytesIter h a b t i) (k : Heap.ExtBut c h h') (hne : a ≠ c) : IsBytesIter h' a b t i :=
  let ⟨o, e, r⟩ := x; ⟨o, k _ _ hne e, r⟩
theorem IsBI_at {h h' : Heap} {a : Addr} {b : Array UInt8} {t : Tok} {i : Nat} (x : IsBytesIter h a b t i) (k : ∀ o, h.get? a = some o → h'.get? a = some o) : IsBytesIter h' a b t i :=
  let ⟨o, e, r⟩ := x; ⟨o, k _ e, r⟩

theorem zipB_item {k : Nat} {x y : UInt8} {a b : Value} {Q : Value → Shared → Prop} (D : Dz z TI TO i1 i2) (hz : IsZip s.heap z TI TO .none) (hTI : IsPair s.heap TI (.ref i1) (.ref i2)) (hTO : IsPair s.heap TO a b)
    (h1 : IsBytesIter s.heap i1 b1 t1 k) (h2 : IsBytesIter s.heap i2 b2 t2 k) (hx : b1[k]? = some x) (hy : b2[k]? = some y)
    (hQ : ∀ h' u v tk, IsZip h' z TI TO (rawInt s.heap.objs.size) → IsPair h' TO (.int (x.toNat : Int) u) (.int (y.toNat : Int) v) → IsBytesIter h' i1 b1 t1 (k + 1) → IsBytesIter h' i2 b2 t2 (k + 1) → IsPair h' s.heap.objs.size (.int (x.toNat : Int) u) (.int (y.toNat : Int) v) →
      (∀ c o, c ≠ z → c ≠ TO → c ≠ i1 → c ≠ i2 → s.heap.get? c = some o → h'.get? c = some o) → Q (.ref s.heap.objs.size) { s with heap := h', toks := tk }) :
    wpAny (model prog w) A (Builtin.«zip.__next__» ⟨[.ref z], []⟩) (fun fin s' => ∃ v, fin = .done (.ret v) ∧ Q v s') E s := by
  show wpAny _ _ (field (.ref z) 2 >>= _) _ _ _
  refine wpAny_bind (wpAny_field hz rfl (x := .bool false) rfl ?_)
  show wpAny _ _ (field (.ref z) 3 >>= _) _ _ _
  refine wpAny_bind (wpAny_field hz rfl (x := .ref TI) rfl ?_)
  refine wpAny_bind (wpAny_seqItems hTI rfl ?_)
  show wpAny _ _ (Builtin.SmallTypes.ownedTupleIsFree (.ref z) >>= _) _ _ _
  refine wpAny_bind ?_
  unfold Builtin.SmallTypes.ownedTupleIsFree
  refine wpAny_bind (wpAny_field hz rfl (x := .none) rfl (wpAny_pure ?_))
  simp only [if_true]
  refine wpAny_bind (wpAny_rule ?_)
  refine wpAny_bind (wpAny_field hz rfl (x := .ref TO) rfl ?_)
  refine wpAny_bind (wpAny_setField_rec hz (by simp) fun h₁ z₁ s₁ => ?_)
  replace z₁ : IsZip h₁ z TI TO .ellipsis := z₁
  refine wpAny_bind ?_
  simp only [List.zipIdx_cons, List.zipIdx_nil, List.forIn_cons, List.forIn_nil]
  refine wpAny_bind (wpAny_bind (wpAny_onRaise ?_))
  show wpAny _ _ (Builtin.SmallTypes.nextOf (.ref i1) >>= _) _ _ _
  refine wpAny_bind (nextB_item (s := { s with heap := h₁ }) (IsBI_ext h1 s₁.extBut D.i1z) hx fun h₂ n₂ s₂ => wpAny_pure ?_)
  have o₂ : IsPair h₂ TO a b := s₂.extBut _ _ D.TOi1 (s₁.extBut _ _ D.TOz hTO)
  refine wpAny_bind (wpAny_seqItems o₂ rfl ?_)
  refine wpAny_bind (wpAny_updateSeq_pair o₂ fun h₃ o₃ s₃ => ?_)
  replace o₃ : IsPair h₃ TO (.int (x.toNat : Int) s.toks) b := o₃
  replace s₃ : Heap.SameBut TO h₂ h₃ := s₃
  replace s₂ : Heap.SameBut i1 h₁ h₂ := s₂
  refine wpAny_bind (wpAny_letGo (wpAny_pure ?_))
  refine wpAny_bind (wpAny_bind (wpAny_onRaise ?_))
  show wpAny _ _ (Builtin.SmallTypes.nextOf (.ref i2) >>= _) _ _ _
  refine wpAny_bind (nextB_item (IsBI_ext (IsBI_ext (IsBI_ext h2 s₁.extBut D.i2z) s₂.extBut D.i12.symm) s₃.extBut D.TOi2.symm) hy fun h₄ n₄ s₄ => wpAny_pure ?_)
  replace s₄ : Heap.SameBut i2 h₃ h₄ := s₄
  have o₄ : IsPair h₄ TO (.int (x.toNat : Int) s.toks) b := s₄.extBut _ _ D.TOi2 o₃
  refine wpAny_bind (wpAny_seqItems o₄ rfl ?_)
  refine wpAny_bind (wpAny_updateSeq_pair o₄ fun h₅ o₅ s₅ => ?_)
  replace s₅ : Heap.SameBut TO h₄ h₅ := s₅
  replace o₅ : IsPair h₅ TO (.int (x.toNat : Int) s.toks) (.int (y.toNat : Int) (s.toks + 1)) := o₅
  refine wpAny_bind (wpAny_letGo (wpAny_pure (wpAny_pure ?_)))
  refine wpAny_bind (wpAny_seqItems o₅ rfl ?_)
  refine wpAny_bind (wpAny_newTuple ?_)
  have hsz : h₅.objs.size = s.heap.objs.size := by rw [s₅.1, s₄.1, s₃.1, s₂.1, s₁.1]
  have z₅ : IsZip h₅ z TI TO .ellipsis := s₅.extBut _ _ D.TOz.symm (s₄.extBut _ _ D.i2z.symm (s₃.extBut _ _ D.TOz.symm (s₂.extBut _ _ D.i1z.symm z₁)))
  have k₅ : ∀ c o, c ≠ z → c ≠ TO → c ≠ i1 → c ≠ i2 → s.heap.get? c = some o → h₅.get? c = some o := fun c o c1 c2 c3 c4 e =>
    s₅.extBut _ _ c2 (s₄.extBut _ _ c4 (s₃.extBut _ _ c2 (s₂.extBut _ _ c3 (s₁.extBut _ _ c1 e))))
  have m1 : IsBytesIter h₅ i1 b1 t1 (k + 1) := IsBI_ext (IsBI_ext (IsBI_ext n₂ s₃.extBut D.TOi1.symm) s₄.extBut D.i12) s₅.extBut D.TOi1.symm
  have m2 : IsBytesIter h₅ i2 b2 t2 (k + 1) := IsBI_ext n₄ s₅.extBut D.TOi2.symm
  have zlt : z < h₅.objs.size := Heap.lt_size z₅
  show wpAny _ _ (Builtin.SmallTypes.ownedTupleHandOut (.ref z) (.ref h₅.objs.size) >>= _) _ _ _
  refine wpAny_bind ?_
  unfold Builtin.SmallTypes.ownedTupleHandOut
  have z₆ : IsZip (h₅.push { cls := .type "tuple", data := .seq #[.int (x.toNat : Int) s.toks, .int (y.toNat : Int) (s.toks + 1)] }) z TI TO .ellipsis := Heap.get?_push_of_some _ z₅
  refine wpAny_bind (wpAny_setField_rec z₆ (by simp) fun h₇ z₇ s₇ => ?_)
  replace z₇ : IsZip h₇ z TI TO (rawInt h₅.objs.size) := z₇
  refine wpAny_setField_rec z₇ (by simp) fun h₈ z₈ s₈ => ?_
  replace z₈ : IsZip h₈ z TI TO (rawInt h₅.objs.size) := z₈
  have up : ∀ c o, c ≠ z → h₅.get? c = some o → h₈.get? c = some o := fun c o c1 e => s₈.extBut _ _ c1 (s₇.extBut _ _ c1 (Heap.get?_push_of_some _ e))
  have p₈ : IsPair h₈ h₅.objs.size (.int (x.toNat : Int) s.toks) (.int (y.toNat : Int) (s.toks + 1)) := s₈.extBut _ _ (Nat.ne_of_gt zlt) (s₇.extBut _ _ (Nat.ne_of_gt zlt) (Heap.get?_push_size _ rfl))
  rw [hsz] at z₈ p₈
  refine wpAny_pure ⟨_, rfl, ?_⟩
  show Q (.ref h₅.objs.size) _
  rw [hsz]
  exact hQ h₈ _ _ _ z₈ (up _ _ D.TOz o₅) (IsBI_at m1 fun o e => up _ o D.i1z e) (IsBI_at m2 fun o e => up _ o D.i2z e) p₈ fun c o c1 c2 c3 c4 e => up c o c1 (k₅ c o c1 c2 c3 c4 e)

theorem zipB_end {k : Nat} {a b : Value} {Q : Fin → Shared → Prop} (hh : A.handled = none) (D : Dz z TI TO i1 i2) (hz : IsZip s.heap z TI TO .none) (hTI : IsPair s.heap TI (.ref i1) (.ref i2)) (hTO : IsPair s.heap TO a b)
    (h1 : IsBytesIter s.heap i1 b1 t1 k) (hend : b1[k]? = none)
    (hE : ∀ h' e, (∀ c o, c ≠ z → c ≠ TO → c ≠ i1 → c ≠ i2 → s.heap.get? c = some o → h'.get? c = some o) → (∃ o, h'.get? e = some o ∧ o.cls = .type "StopIteration") → E (.ref e) { s with heap := h' }) :
    wpAny (model prog w) A (Builtin.«zip.__next__» ⟨[.ref z], []⟩) Q E s := by
  show wpAny _ _ (field (.ref z) 2 >>= _) _ _ _
  refine wpAny_bind (wpAny_field hz rfl (x := .bool false) rfl ?_)
  show wpAny _ _ (field (.ref z) 3 >>= _) _ _ _
  refine wpAny_bind (wpAny_field hz rfl (x := .ref TI) rfl ?_)
  refine wpAny_bind (wpAny_seqItems hTI rfl ?_)
  show wpAny _ _ (Builtin.SmallTypes.ownedTupleIsFree (.ref z) >>= _) _ _ _
  refine wpAny_bind ?_
  unfold Builtin.SmallTypes.ownedTupleIsFree
  refine wpAny_bind (wpAny_field hz rfl (x := .none) rfl (wpAny_pure ?_))
  simp only [if_true]
  refine wpAny_bind (wpAny_rule ?_)
  refine wpAny_bind (wpAny_field hz rfl (x := .ref TO) rfl ?_)
  refine wpAny_bind (wpAny_setField_rec hz (by simp) fun h₁ z₁ s₁ => ?_)
  replace z₁ : IsZip h₁ z TI TO .ellipsis := z₁
  refine wpAny_bind ?_
  simp only [List.zipIdx_cons, List.zipIdx_nil, List.forIn_cons, List.forIn_nil]
  refine wpAny_bind (wpAny_bind (wpAny_onRaise ?_))
  show wpAny _ _ (Builtin.SmallTypes.nextOf (.ref i1) >>= _) _ _ _
  refine wpAny_bind (nextB_end hh (s := { s with heap := h₁ }) (IsBI_ext h1 s₁.extBut D.i1z) hend fun h₂ e x₂ he => ?_)
  obtain ⟨oe, hoe, hce⟩ := he
  have z₂ : IsZip h₂ z TI TO .ellipsis := x₂ _ _ D.i1z.symm z₁
  have ez : e ≠ z := fun x => by subst x; rw [z₂] at hoe; cases hoe; simp at hce
  exact wpAny_setField_rec z₂ (by simp) fun h₃ _ s₃ => hE h₃ e (fun c o c1 _ c3 _ x => s₃.extBut _ _ c1 (x₂ _ _ c3 (s₁.extBut _ _ c1 x))) ⟨oe, s₃.extBut _ _ ez hoe, hce⟩

theorem zipB_walks (hh : A.handled = none) (D : Dz z TI TO i1 i2) (b1 b2 : Array UInt8) (t1 t2 : Tok) (hlen : b1.size = b2.size) :
    WalksU prog w A z [z, TI, TO, i1, i2] [z, TO, i1, i2] b1.size (fun i vals => ∃ x y u v, b1[i]? = some x ∧ b2[i]? = some y ∧ vals = #[.int (x.toNat : Int) u, .int (y.toNat : Int) v])
      (fun i h => IsZip h z TI TO .none ∧ IsPair h TI (.ref i1) (.ref i2) ∧ (∃ a b, IsPair h TO a b) ∧ IsBytesIter h i1 b1 t1 i ∧ IsBytesIter h i2 b2 t2 i)
      (fun i T h => IsZip h z TI TO (rawInt T) ∧ IsPair h TI (.ref i1) (.ref i2) ∧ (∃ a b, IsPair h TO a b) ∧ IsBytesIter h i1 b1 t1 (i + 1) ∧ IsBytesIter h i2 b2 t2 (i + 1) ∧ T ≠ z ∧ T ≠ TO ∧ T ≠ i1 ∧ T ≠ i2) where
  sub := fun c hc => by simp at hc ⊢; rcases hc with rfl | rfl | rfl | rfl <;> simp
  frame := fun i h h' ⟨hz, hTI, ⟨a, b, hTO⟩, h1, h2⟩ hk =>
    ⟨hk z (by simp) _ hz, hk TI (by simp) _ hTI, ⟨a, b, hk TO (by simp) _ hTO⟩, IsBI_at h1 fun o e => hk i1 (by simp) o e, IsBI_at h2 fun o e => hk i2 (by simp) o e⟩
  item := fun i s Q E hi ⟨hz, hTI, ⟨a, b, hTO⟩, h1, h2⟩ hQ => by
    have hx := Array.getElem?_eq_getElem hi
    have hy := Array.getElem?_eq_getElem (hlen ▸ hi : i < b2.size)
    have lt : ∀ {c o}, s.heap.get? c = some o → s.heap.objs.size ≠ c := fun e => Nat.ne_of_gt (Heap.lt_size e)
    have hT : s.TypeIs (.ref z) "zip" := ⟨_, hz, rfl⟩
    unfold pyNext
    refine wpAny_bind (wpAny_attempt (wpAny_callSpecial?_slot (name := Str.ofString "__next__") hT F.slot_zip_next
      (wpAny_call_entry F.slot_zip_next hT F.entry_zip_next (zipB_item D hz hTI hTO h1 h2 hx hy fun h' u v tk a1 a2 a3 a4 a5 hk => wpAny_pure ?_) (F.args_zip_next_1 _))))
    exact hQ s.heap.objs.size _ h' tk ⟨_, _, _, _, hx, hy, rfl⟩ ⟨_, a5, rfl, _, rfl⟩ ⟨a1, hk _ _ D.TIz D.TITO D.TIi1 D.TIi2 hTI, ⟨_, _, a2⟩, a3, a4, lt hz, lt hTO, (by obtain ⟨_, e, _⟩ := h1; exact lt e), (by obtain ⟨_, e, _⟩ := h2; exact lt e)⟩
      fun c o hc e => hk c o (fun x => hc (by simp [x])) (fun x => hc (by simp [x])) (fun x => hc (by simp [x])) (fun x => hc (by simp [x])) e
  go := fun elts k pos i T s Q E ⟨hz, hTI, ⟨a, b, hTO⟩, h1, h2, _⟩ hQ =>
    wpAny_letOwnedTupleGo_zip hz fun h' hz' hs' => hQ h' ⟨hz', hs'.extBut _ _ D.TIz hTI, ⟨a, b, hs'.extBut _ _ D.TOz hTO⟩, IsBI_ext h1 hs'.extBut D.i1z, IsBI_ext h2 hs'.extBut D.i2z⟩ fun c o hc e => hs'.extBut _ _ (fun x => hc (by simp [x])) e
  apart := fun i T h ⟨_, _, _, _, _, t1, t2, t3, t4⟩ hT => by
    simp at hT
    rcases hT with rfl | rfl | rfl | rfl
    · exact t1 rfl
    · exact t2 rfl
    · exact t3 rfl
    · exact t4 rfl
  done := fun s Q E ⟨hz, hTI, ⟨a, b, hTO⟩, h1, h2⟩ hQ => by
    have hT : s.TypeIs (.ref z) "zip" := ⟨_, hz, rfl⟩
    unfold pyNext
    refine wpAny_bind (wpAny_attempt (wpAny_callSpecial?_slot (name := Str.ofString "__next__") hT F.slot_zip_next
      (wpAny_call_entry F.slot_zip_next hT F.entry_zip_next (zipB_end hh D hz hTI hTO h1 (Array.getElem?_eq_none (Nat.le_refl _)) fun h' e hk he => ?_) (F.args_zip_next_1 _))))
    obtain ⟨o, ho, hc⟩ := he
    refine wpAny_bind (wpAny_isInstance (T := "StopIteration") (b := true) ⟨o, ho, hc⟩ isSubtype_stop ?_)
    exact wpAny_pure (hQ _ s.toks fun c o hc e => hk c o (fun x => hc (by simp [x])) (fun x => hc (by simp [x])) (fun x => hc (by simp [x])) (fun x => hc (by simp [x])) e)
  self := fun i s Q E hst hQ => wpAny_pyIter_zip hst.1 hQ
end
end Mine
set_option maxRecDepth 100000
set_option Elab.async false
set_option linter.unusedVariables false
namespace Mine
open PySem PySem.W PySem.Spec PyProof.Rows PySem.Calls PySem.W.KBw
open PySem.F (bm_plain bm_plain_loop bm_entry bm_entry_loop bm_newCall bm_sub bm_bind bm_called bm_typeCall)

theorem wp_if_neg {α : Type} {M : Model} {A : Around} {E : Value → Shared → Prop} {s : Shared} {c : Prop} [Decidable c] {a b : Sem α} {Q : α → Shared → Prop} (hc : ¬ c) (h : wpAny M A b Q E s) : wpAny M A (if c then a else b) Q E s := by
  rw [if_neg hc]; exact h
theorem gb_no_bytes : typeLookup (.type "generator") "__bytes__" = pure none := by rw [typeLookup_type, builtinLookup_eq_fast]; kernel_rfl
theorem gb_no_index : typeLookup (.type "generator") "__index__" = pure none := by rw [typeLookup_type, builtinLookup_eq_fast]; kernel_rfl
theorem gb_no_buffer : typeLookup (.type "generator") "__buffer__" = pure none := by rw [typeLookup_type, builtinLookup_eq_fast]; kernel_rfl
theorem ib_no_bytes : typeLookup (.type "int") "__bytes__" = pure none := by rw [typeLookup_type, builtinLookup_eq_fast]; kernel_rfl
theorem ib_index : typeLookup (.type "int") "__index__" = pure (some (.builtin "int.__index__")) := by rw [typeLookup_type, builtinLookup_eq_fast]; kernel_rfl

section
variable {prog : Program} {w : World} {A : Around} {E : Value → Shared → Prop} {s : Shared}

theorem bytes_loopS {R : Result → Shared → Prop} {a S : Addr} {fp wr : List Addr} {G : Array GenState → Array GenState → Prop} {n : Nat} {P : Nat → Value → Prop} {T : Nat → Shared → Prop} {ns : List Int}
    (W : WalksS prog w A.in1 a fp wr G n P T) (hS : S ∉ fp) (hn : ns.length = n) (hval : ∀ i v, i < n → P i v → ∃ t k, ns[i]? = some k ∧ v = .int k t) (hr : ∀ k ∈ ns, 0 ≤ k ∧ k < 256) (hz : n ≤ sizeLine) :
    ∀ (k i : Nat) (s : Shared), n - i = k → i ≤ n → T i s → s.heap.get? S = some { cls := .type "bytearray", data := .bytearray (byteArr (ns.take i)) } →
      (∀ s' t, Moved (S :: wr) G s s' → R (.ok (.ret (.bytes (byteArr ns) t))) s') →
      codeAny (model prog w) A (.builtin "bytes.__new__.loop" ⟨[.type "bytes", .ref a, .ref S], []⟩) R s := by
  have hSw : S ∉ wr := fun h => hS (W.sub _ h)
  have hsub : ∀ b ∈ wr, b ∈ S :: wr := fun b hb => List.mem_cons_of_mem _ hb
  intro k
  induction k with
  | zero =>
    intro i s hk hi ht hB hR
    have e : i = n := by omega
    subst e
    refine codeAny_builtin bm_entry_loop ?_
    rw [Around.under_plainId bm_plain_loop _]
    show wpAny _ A.in1 (pyNext (.ref a) >>= _) _ _ s
    refine wpAny_bind (W.done s _ _ ht fun s' hm => ?_)
    have hB' := hm.heap S _ hSw hB
    refine wpAny_bind ?_
    unfold Builtin.Bytes.payload Builtin.Bytes.payload?
    refine wpAny_bind (wpAny_bind (wpAny_load hB' ?_))
    refine wpAny_pure (wpAny_pure ?_)
    rw [← hn, List.take_length]
    refine wpAny_bind (wpAny_mkBytes ?_ (by rw [byteArr_size, hn]; exact hz))
    show wpAny _ _ (if (Value.type "bytes" == Value.type "bytes") = true then _ else _) _ _ _
    refine bm_if_true (by decide) ?_
    have hm' : Moved (S :: wr) G s { s' with toks := s'.toks + 1 } := (hm.mono hsub).then_heap (Nat.le_succ _) fun _ _ _ e => e
    first
      | exact wpAny_pure (hR _ _ hm')
      | exact wpAny_bind (wpAny_pure (wpAny_pure (hR _ _ hm')))
  | succ k ih =>
    intro i s hk hi ht hB hR
    have hlt : i < n := by omega
    refine codeAny_builtin bm_entry_loop ?_
    rw [Around.under_plainId bm_plain_loop _]
    show wpAny _ A.in1 (pyNext (.ref a) >>= _) _ _ s
    refine wpAny_bind (W.item i s _ _ hlt ht fun v s' hv ht' hm => ?_)
    obtain ⟨t, c, hc, rfl⟩ := hval i v hlt hv
    obtain ⟨h0, h1⟩ := hr c (List.mem_of_getElem? hc)
    have hB' := hm.heap S _ hSw hB
    refine wpAny_bind (wpAny_holding (wpAny_of_eq (rfl : asIndex (.int c t) = pure c) ?_))
    refine wpAny_bind (wpAny_letGo ?_)
    refine bm_if_false (by simp only [Bool.or_eq_false_iff, decide_eq_false_iff_not]; omega) ?_
    refine wpAny_bind ?_
    show wpAny _ _ (updateBytearray S (·.push c.toNat.toUInt8)) _ _ _
    unfold updateBytearray
    refine wpAny_bind (wpAny_load hB' ?_)
    show wpAny _ _ (update S (Obj.mapBytearray (·.push c.toNat.toUInt8)) >>= fun _ => lookBehind S) _ _ _
    refine wpAny_bind (wpAny_update hB' ?_)
    have hB₂ : (s'.heap.update S (Obj.mapBytearray (·.push c.toNat.toUInt8))).get? S = some { cls := .type "bytearray", data := .bytearray (byteArr (ns.take (i + 1))) } := by
      rw [byteArr_take hc]
      exact Heap.get?_update_self (Obj.mapBytearray (·.push c.toNat.toUInt8)) hB' rfl
    have hx : Heap.ExtBut S s'.heap (s'.heap.update S (Obj.mapBytearray (·.push c.toNat.toUInt8))) := (Heap.SameBut.update ..).extBut
    refine wpAny_lookBehind hB₂ ?_ ?_
    · show (if (byteArr (ns.take (i + 1))).size > sizeLine then some "bytearray:memory" else none) = none
      rw [if_neg]
      rw [byteArr_size, List.length_take]
      omega
    · refine wpAny_pure ⟨plainId_quiet bm_plain_loop _, ih (i + 1) _ (by omega) hlt (W.frame _ s' _ _ ht' (Nat.le_refl _) fun b hb o e => hx b o (fun h => hS (h ▸ hb)) e) hB₂ fun s'' t' hm' => hR s'' t' ?_⟩
      exact ((hm.mono hsub).then_heap (Nat.le_refl _) fun b o hb e => hx b o (fun h => hb (h ▸ List.mem_cons_self)) e).trans W.gtrans hm'

theorem bytes_new_gen {a : Addr} {fp wr : List Addr} {g : Nat} {n : Nat} {P : Nat → Value → Prop} {T : Nat → Shared → Prop} {ns : List Int} {Q : Value → Shared → Prop}
    (W : WalksS prog w A.in1 a fp wr (GenOnlyQ g) n P T) (ht : T 0 s) (hg : ∃ g, s.heap.IsGen a g) (hfp : ∀ b ∈ fp, b < s.heap.objs.size) (hn : ns.length = n) (hval : ∀ i v, i < n → P i v → ∃ t k, ns[i]? = some k ∧ v = .int k t) (hr : ∀ k ∈ ns, 0 ≤ k ∧ k < 256) (hz : n ≤ sizeLine)
    (hQ : ∀ s' t, Moved wr (GenOnlyQ g) s s' → Q (.bytes (byteArr ns) t) s') :
    codeAny (model prog w) A (.call (.builtin "bytes.__new__") ⟨[.type "bytes", .ref a], []⟩) (wants Q E) s := by
  refine codeAny_of_tree ?_
  show wpAny _ A.in1 (do checkBuiltinCall "bytes.__new__" ⟨[.type "bytes", .ref a], []⟩; again (.builtin "bytes.__new__" ⟨[.type "bytes", .ref a], []⟩)) _ _ s
  refine wpAny_bind (wpAny_of_eq (bm_newCall _) (wpAny_pure ⟨plainId_quiet bm_plain _, codeAny_builtin bm_entry ?_⟩))
  rw [Around.under_plainId bm_plain _]
  obtain ⟨g', og, nm, qn, hol, hoc, hod, hos⟩ := hg
  have hT : s.TypeIs (.ref a) "generator" := ⟨og, hol, hoc⟩
  unfold Builtin.«bytes.__new__»
  refine wpAny_bind (wpAny_of_eq (a := true) rfl ?_)
  refine bm_if_false rfl ?_
  refine wpAny_bind (wpAny_of_eq bm_sub ?_)
  refine bm_if_false rfl ?_
  refine wpAny_bind (wpAny_of_eq (bm_bind _) ?_)
  refine wpAny_bind (wpAny_of_eq (a := ()) rfl ?_)
  refine wpAny_bind (wpAny_of_eq (a := ()) rfl ?_)
  refine bm_if_false rfl ?_
  refine wpAny_bind (wpAny_specialOf hT gb_no_bytes ?_)
  refine wpAny_bind (wpAny_bind ?_)
  show wpAny _ _ (load a >>= _) _ _ _
  refine wpAny_bind (wpAny_load hol ?_)
  rw [hod]
  refine wpAny_pure (wpAny_pure ?_)
  refine bm_if_false rfl ?_
  refine wpAny_bind (wpAny_specialOf hT gb_no_index ?_)
  refine bm_if_true rfl ?_
  first
    | show wpAny _ _ (Builtin.Bytes.buffer? "bytes.__new__" (.ref a) true >>= _) _ _ _
    | (refine wpAny_bind ?_; show wpAny _ _ (Builtin.Bytes.buffer? "bytes.__new__" (.ref a) true >>= _) _ _ _)
  refine wpAny_bind ?_
  unfold Builtin.Bytes.buffer?
  refine wpAny_bind (wpAny_specialOf hT gb_no_buffer ?_)
  refine wpAny_bind (wpAny_specialOf hT gb_no_buffer ?_)
  refine wpAny_pure ?_
  have W1 : WalksS prog w A a fp wr (GenOnlyQ g) n P T := WalksS.of_in1 W
  refine wpAny_bind (wpAny_tryCatch (W.self 0 _ _ _ ht ?_))
  refine wpAny_bind (wpAny_holding ?_)
  unfold Builtin.Bytes.lengthHint
  refine wpAny_bind (wpAny_specialOf hT F.gen_no_len ?_)
  dsimp only
  refine bm_if_false (by decide +kernel) ?_
  refine bm_if_false rfl ?_
  refine wpAny_bind (wpAny_specialOf hT F.gen_no_hint ?_)
  refine wpAny_pure ?_
  refine wpAny_bind ?_
  unfold Builtin.Bytes.newBytearray
  refine wpAny_newObj_type ?_ (Nat.zero_le _)
  have hS : s.heap.objs.size ∉ fp := fun hm => Nat.lt_irrefl _ (hfp _ hm)
  have main := bytes_loopS (R := wants Q E) W hS hn hval hr hz n 0 { s with heap := s.heap.push { cls := .type "bytearray", data := .bytearray #[] } } rfl (Nat.zero_le _)
    (W.frame 0 s _ s.toks ht (Nat.le_refl _) fun b _ o e => Heap.get?_push_of_some _ e) (Heap.get?_push_size _ rfl) fun s' t hm => hQ s' t (hm.drop_new (Nat.le_refl _))
  first
    | exact wpAny_pure ⟨plainId_quiet bm_plain_loop _, main⟩
    | exact wpAny_pure (wpAny_pure ⟨plainId_quiet bm_plain_loop _, main⟩)

theorem call_bytes_gen {a : Addr} {fp wr : List Addr} {g : Nat} {n : Nat} {P : Nat → Value → Prop} {T : Nat → Shared → Prop} {ns : List Int} {Q : Value → Shared → Prop}
    (W : WalksS prog w A.in1.in1 a fp wr (GenOnlyQ g) n P T) (ht : T 0 s) (hg : ∃ g, s.heap.IsGen a g) (hfp : ∀ b ∈ fp, b < s.heap.objs.size) (hn : ns.length = n) (hval : ∀ i v, i < n → P i v → ∃ t k, ns[i]? = some k ∧ v = .int k t) (hr : ∀ k ∈ ns, 0 ≤ k ∧ k < 256) (hz : n ≤ sizeLine)
    (hQ : ∀ s' t, Moved wr (GenOnlyQ g) s s' → Q (.bytes (byteArr ns) t) s') : wpAny (model prog w) A (call (.type "bytes") [.ref a]) Q E s := by
  refine callType_codes (Q₁ := fun obj s₁ => s₁.TypeIs obj "bytes" ∧ Q obj s₁) bm_called (bm_typeCall _) F.entry_object_init
    (bytes_new_gen W ht hg hfp hn hval hr hz fun s' t hm => ⟨PySem.W.typeIs_bytes _ _ _, hQ s' t hm⟩) fun obj s₁ h₁ => ?_
  exact ⟨h₁.1, F.args_object_init_2 obj _, object_init_meets bm_called.init.lookup bm_called.made (by decide) prog w A.in1 _ s₁ ⟨h₁.1, rfl, h₁.2⟩⟩

theorem bytes_new_int {n : Nat} {t : Tok} {Q : Value → Shared → Prop} (hn : n ≤ 2 ^ 20) (hQ : ∀ t, Q (.bytes (Array.replicate n 0) t) { s with toks := s.toks + 1 }) :
    codeAny (model prog w) A (.call (.builtin "bytes.__new__") ⟨[.type "bytes", .int (n : Int) t], []⟩) (wants Q E) s := by
  have hT : s.TypeIs (.int (n : Int) t) "int" := typeIs_int _ _ _
  generalize hv : Value.int (n : Int) t = v at *
  refine codeAny_of_tree ?_
  show wpAny _ A.in1 (do checkBuiltinCall "bytes.__new__" ⟨[.type "bytes", v], []⟩; again (.builtin "bytes.__new__" ⟨[.type "bytes", v], []⟩)) _ _ s
  refine wpAny_bind (wpAny_of_eq (bm_newCall _) (wpAny_pure ⟨plainId_quiet bm_plain _, codeAny_builtin bm_entry ?_⟩))
  rw [Around.under_plainId bm_plain _]
  unfold Builtin.«bytes.__new__»
  refine wpAny_bind (wpAny_of_eq (a := true) rfl ?_)
  refine bm_if_false rfl ?_
  refine wpAny_bind (wpAny_of_eq bm_sub ?_)
  refine bm_if_false rfl ?_
  refine wpAny_bind (wpAny_of_eq (bm_bind _) ?_)
  refine wpAny_bind (wpAny_of_eq (a := ()) rfl ?_)
  refine wpAny_bind (wpAny_of_eq (a := ()) rfl ?_)
  refine bm_if_false rfl ?_
  refine wpAny_bind (wpAny_specialOf hT ib_no_bytes ?_)
  have hs : asStr? v = pure none := by rw [← hv]; rfl
  refine wpAny_bind (wpAny_bind (wpAny_of_eq hs (wpAny_pure ?_)))
  refine bm_if_false rfl ?_
  refine wpAny_bind (wpAny_specialOf hT ib_index ?_)
  refine bm_if_false rfl ?_
  refine wpAny_bind ?_
  have ha : asIndex v = pure (n : Int) := by rw [← hv]; rfl
  refine wpAny_attempt (wpAny_of_eq ha ?_)
  dsimp only
  have e1 : Builtin.Bytes.fitsIndex (n : Int) = true := by
    unfold Builtin.Bytes.fitsIndex; simp; omega
  have e2 : Builtin.Bytes.tooLong ((n : Int)).toNat = false := by
    unfold Builtin.Bytes.tooLong; simp [sizeLine_eq]; omega
  rw [e1]
  with_reducible refine bm_if_false (by with_unfolding_all rfl) ?_
  with_reducible refine wp_if_neg ?_ ?_
  · omega
  with_reducible refine wp_if_neg ?_ ?_
  · omega
  refine bm_if_false e2 ?_
  refine wpAny_bind (wpAny_rule ?_)
  refine wpAny_bind (wpAny_mkBytes ?_ (by simp [sizeLine_eq]; omega))
  show wpAny _ _ (if (Value.type "bytes" == Value.type "bytes") = true then _ else _) _ _ _
  refine bm_if_true (by decide) ?_
  rw [Int.toNat_natCast]
  first
    | exact wpAny_pure (hQ _)
    | exact wpAny_bind (wpAny_pure (wpAny_pure (hQ _)))
theorem call_bytes_int {n : Nat} {t : Tok} {Q : Value → Shared → Prop} (hn : n ≤ 2 ^ 20) (hQ : ∀ t, Q (.bytes (Array.replicate n 0) t) { s with toks := s.toks + 1 }) : wpAny (model prog w) A (call (.type "bytes") [.int (n : Int) t]) Q E s := by
  refine callType_codes (Q₁ := fun obj s₁ => s₁.TypeIs obj "bytes" ∧ Q obj s₁) bm_called (bm_typeCall _) F.entry_object_init
    (bytes_new_int hn fun t => ⟨PySem.W.typeIs_bytes _ _ _, hQ t⟩) fun obj s₁ h₁ => ?_
  exact ⟨h₁.1, F.args_object_init_2 obj _, object_init_meets bm_called.init.lookup bm_called.made (by decide) prog w A.in1 _ s₁ ⟨h₁.1, rfl, h₁.2⟩⟩
end

abbrev zB1 (h : Heap) (v1 : Value) : Heap := h.push { cls := .type "bytes_iterator", data := .fields #[v1, .int 0 0] }
abbrev zB2 (h : Heap) (v1 v2 : Value) : Heap := (zB1 h v1).push { cls := .type "bytes_iterator", data := .fields #[v2, .int 0 0] }
abbrev zB3 (h : Heap) (v1 v2 : Value) : Heap := (zB2 h v1 v2).push { cls := .type "tuple", data := .seq #[.ref h.objs.size, .ref (zB1 h v1).objs.size] }
abbrev zB4 (h : Heap) (v1 v2 : Value) : Heap := (zB3 h v1 v2).push { cls := .type "tuple", data := .seq #[.none, .none] }
abbrev zB5 (h : Heap) (v1 v2 : Value) : Heap := (zB4 h v1 v2).push { cls := .type "zip", data := .fields #[.none, .bool false, .bool false, .ref (zB2 h v1 v2).objs.size, .ref (zB3 h v1 v2).objs.size] }
theorem zipB_new (b1 b2 : Array UInt8) (t1 t2 : Tok) :
    Meets (Builtin.«zip.__new__» ⟨[.type "zip", .bytes b1 t1, .bytes b2 t2], []⟩) (fun _ R s => ∀ h', IsZip h' (s.heap.objs.size + 4) (s.heap.objs.size + 2) (s.heap.objs.size + 3) .none → IsPair h' (s.heap.objs.size + 2) (.ref s.heap.objs.size) (.ref (s.heap.objs.size + 1)) →
      IsPair h' (s.heap.objs.size + 3) .none .none → IsBytesIter h' s.heap.objs.size b1 t1 0 → IsBytesIter h' (s.heap.objs.size + 1) b2 t2 0 → h'.objs.size = s.heap.objs.size + 5 →
      (∀ c o, s.heap.get? c = some o → h'.get? c = some o) → R (.ok (.ret (.ref (s.heap.objs.size + 4)))) { s with heap := h' }) :=
  .of_wp fun prog w A R s h => by
    obtain ⟨hp, g, d, tk, os⟩ := s
    have hsub := sub_zip
    generalize hb1 : Value.bytes b1 t1 = v1
    generalize hb2 : Value.bytes b2 t2 = v2
    have p1 : ∀ (A : Around) (E : Value → Shared → Prop) (h : Heap) (Q : Value → Shared → Prop), Q (.ref h.objs.size) ⟨h.push { cls := .type "bytes_iterator", data := .fields #[v1, .int 0 0] }, g, d, tk, os⟩ → wpAny (model prog w) A (pyIter v1) Q E ⟨h, g, d, tk, os⟩ := fun A E h Q hq => by
      subst hb1; exact pyIter_bytes hq
    have p2 : ∀ (A : Around) (E : Value → Shared → Prop) (h : Heap) (Q : Value → Shared → Prop), Q (.ref h.objs.size) ⟨h.push { cls := .type "bytes_iterator", data := .fields #[v2, .int 0 0] }, g, d, tk, os⟩ → wpAny (model prog w) A (pyIter v2) Q E ⟨h, g, d, tk, os⟩ := fun A E h Q hq => by
      subst hb2; exact pyIter_bytes hq
    wp_walk using p1 _ _ _ _, p2 _ _ _ _
    refine ⟨_, rfl, ?_⟩
    show R (.ok (.ret (.ref (zB4 hp v1 v2).objs.size))) ⟨zB5 hp v1 v2, g, d, tk, os⟩
    have z1 : (zB1 hp v1).objs.size = hp.objs.size + 1 := Heap.size_push ..
    have z2 : (zB2 hp v1 v2).objs.size = hp.objs.size + 2 := by rw [Heap.size_push, z1]
    have z3 : (zB3 hp v1 v2).objs.size = hp.objs.size + 3 := by rw [Heap.size_push, z2]
    have z4 : (zB4 hp v1 v2).objs.size = hp.objs.size + 4 := by rw [Heap.size_push, z3]
    have z5 : (zB5 hp v1 v2).objs.size = hp.objs.size + 5 := by rw [Heap.size_push, z4]
    have g5 : (zB5 hp v1 v2).get? (zB4 hp v1 v2).objs.size = some _ := Heap.get?_push_size _ rfl
    have g4 : (zB5 hp v1 v2).get? (zB3 hp v1 v2).objs.size = some _ := Heap.get?_push_of_some _ (Heap.get?_push_size _ rfl)
    have g3 : (zB5 hp v1 v2).get? (zB2 hp v1 v2).objs.size = some _ := Heap.get?_push_of_some _ (Heap.get?_push_of_some _ (Heap.get?_push_size _ rfl))
    have g2 : (zB5 hp v1 v2).get? (zB1 hp v1).objs.size = some _ := Heap.get?_push_of_some _ (Heap.get?_push_of_some _ (Heap.get?_push_of_some _ (Heap.get?_push_size _ rfl)))
    have g1 : (zB5 hp v1 v2).get? hp.objs.size = some _ := Heap.get?_push_of_some _ (Heap.get?_push_of_some _ (Heap.get?_push_of_some _ (Heap.get?_push_of_some _ (Heap.get?_push_size _ rfl))))
    rw [z2, z3, z4] at g5
    rw [z1, z2] at g3
    rw [z3] at g4
    rw [z1] at g2
    rw [z4]
    exact h _ g5 g3 g4 ⟨_, g1, rfl, by rw [← hb1]; rfl⟩ ⟨_, g2, rfl, by rw [← hb2]; rfl⟩ z5 fun c o x =>
      Heap.get?_push_of_some _ (Heap.get?_push_of_some _ (Heap.get?_push_of_some _ (Heap.get?_push_of_some _ (Heap.get?_push_of_some _ x))))

section
variable {prog : Program} {w : World} {A : Around} {E : Value → Shared → Prop} {s : Shared}
theorem call_zipB {b1 b2 : Array UInt8} {t1 t2 : Tok} {Q : Value → Shared → Prop}
    (h : ∀ h', IsZip h' (s.heap.objs.size + 4) (s.heap.objs.size + 2) (s.heap.objs.size + 3) .none → IsPair h' (s.heap.objs.size + 2) (.ref s.heap.objs.size) (.ref (s.heap.objs.size + 1)) →
      IsPair h' (s.heap.objs.size + 3) .none .none → IsBytesIter h' s.heap.objs.size b1 t1 0 → IsBytesIter h' (s.heap.objs.size + 1) b2 t2 0 → h'.objs.size = s.heap.objs.size + 5 →
      (∀ c o, s.heap.get? c = some o → h'.get? c = some o) → Q (.ref (s.heap.objs.size + 4)) { s with heap := h' }) :
    wpAny (model prog w) A (call (.type "zip") [.bytes b1 t1, .bytes b2 t2]) Q E s :=
  callType_new F.called_zip (by decide) (F.typeCall_zip_2 _ _) (F.newCall_zip_2 _ _) (fun obj => F.args_object_init_3 obj _ _) F.entry_zip_new
    (zipB_new b1 b2 t1 t2) fun h' a1 a2 a3 a4 a5 a6 a7 => ⟨⟨_, a1, rfl⟩, h h' a1 a2 a3 a4 a5 a6 a7⟩
end

section
variable {C : Cx} {A : Around} {E : Value → Shared → Prop} {ρ : Loc} {obs : Led}
theorem Tr_bytes_int {n : Nat} {t : Tok} {Q : Value → Led → Prop} (hn : n ≤ 2 ^ 20) (h : ∀ t, Q (.bytes (Array.replicate n 0) t) obs) : Tr C A E ρ obs (call (.type "bytes") [.int (n : Int) t]) Q := fun s S =>
  call_bytes_int hn fun t => ⟨obs, S.tok _, h t⟩

/-- bytes over a generator expression -/
theorem Ev_bytes_gen {g : Expr} {xp pos : Pos} {n : Nat} {F : Nat → Value → Prop} {Q : Value → Led → Prop} (ns : List Int) (hq : C.W.gq = bareQ)
    (hgen : ∀ s, St C ρ obs s → wpAny (model PR C.W.w) A (eval g C.env) (fun r s' => ∃ a, r = .ref a ∧ Gn C A ρ obs a n F s') E s)
    (hn : ns.length = n) (hval : ∀ i v, i < n → F i v → ∃ t k, ns[i]? = some k ∧ v = .int k t) (hr : ∀ k ∈ ns, 0 ≤ k ∧ k < 256) (hz : n ≤ 2 ^ 20) (hQ : ∀ t, Q (.bytes (byteArr ns) t) obs)
    (hg : C.env.scope.names.lookup (Str.ofString ".0") = none := by kernel_rfl!)
    (hv : gvar C.W.w (Str.ofString "bytes") = none := by kernel_rfl!) (hk : C.env.kindOf (Str.ofString "bytes") = some .globalImplicit := by kernel_rfl!)
    (he : starEach [g] C.env = (false, eval g C.env) :: starEach [] C.env := by with_unfolding_all rfl)
    (hp : (backTo pos (starEach [] C.env)).any (·.1) = false := by with_unfolding_all rfl) : Ev C A E ρ obs (.Call (.Name (Str.ofString "bytes") xp) [g] [] pos) Q := by
  refine Ev_callT_raw b_bytes (fun s S => args_cons (wpAny_mono (hgen s S) (fun r s1 ⟨a, e, G⟩ => ?_) fun _ _ x => x) he) hv hk (by decide +kernel) he hp
  subst e
  refine args_nil ?_
  obtain ⟨fp, wr, g', T, Wk, ht, hfp, ha, hwr⟩ := G.wk
  exact call_bytes_gen (WalksS.of_in1 (A := A.in1.in1) (WalksS.of_in1 (A := A.in1.in1.in1) Wk)) ht G.ty hfp hn hval hr (by rw [sizeLine_eq]; omega) fun s' t hm => ⟨obs, G.st.moved hg hq hm hwr, hQ t⟩
end
end Mine
set_option maxRecDepth 100000
set_option Elab.async false
set_option linter.unusedVariables false
namespace Mine
open PySem PySem.W PySem.Spec PyProof.Rows PySem.Calls

local macro_rules | `(tactic| walk_at "m") => `(tactic| first
  | assumption
  | with_reducible exact List.mem_cons_self
  | with_reducible exact setL_here
  | (with_reducible refine setL_there' ?_ (by dsimp only; decide +kernel); walk_at "m")
  | (with_reducible refine List.mem_cons_of_mem _ ?_; walk_at "m"))

def rsO (x b : Value) (d : Addr) : Obj := { cls := .ref 145, dict := some d, data := .seq #[x, b] }
def dO : Obj := { cls := .type "dict", data := .dict #[] }

section
variable {C : Cx} {A : Around} {E : Value → Shared → Prop} {ρ : Loc} {obs : Led}

theorem St.inst {s : Shared} {a d : Addr} {x b : Value} (S : St C ρ obs s) (h1 : (a, rsO x b d) ∈ obs) (h2 : (d, dO) ∈ obs) : InstAt s.heap a (rsO x b d) 145 (some dO) :=
  ⟨(S.ob _ h1).1, rfl, rfl, (S.ob _ h2).1⟩

theorem Tr_is_none {a : Addr} {Q : Value → Led → Prop} (h : Q (.bool false) obs) : Tr C A E ρ obs (compareOp .Is (.ref a) .none) Q := Tr_of0 (fun _ _ _ r => is_ref_none r) h
theorem Ev_none {k pos} {Q : Value → Led → Prop} (h : Q .none obs) : Ev C A E ρ obs (.Constant .none k pos) Q := Tr_of0 (fun _ _ _ r => wpAny_Constant_none r) h

theorem Tr_type {a d : Addr} {x b : Value} {Q : Value → Led → Prop} (h1 : (a, rsO x b d) ∈ obs) (h : Q (.ref 145) obs) : Tr C A E ρ obs (call (.type "type") [.ref a]) Q := fun s S => by
  have e := (S.ob _ h1).1
  obtain ⟨hh, g, dr, t, os⟩ := s
  exact call_type_obj e (by rfl) ⟨obs, S, h⟩

theorem cls_at {K : Frag} {T : Addr} {h : Heap} (X : K.In h) (hc : (clsIn K T).isSome = true) : ∃ c d cd sl, h.get? T = some ⟨c, d, .cls cd, sl⟩ := by
  unfold clsIn at hc
  split at hc
  · rename_i c d cd sl e
    exact ⟨c, d, cd, sl, X _ _ e⟩
  · cases hc
theorem issub_nested {M : Model} {A : Around} {E : Value → Shared → Prop} {s : Shared} {K : Frag} {T : Addr} {dep : Int} {tk : Tok} {Q : Fin → Shared → Prop} (X : K.In s.heap) (hc : (clsIn K T).isSome = true) (e3 : subIn K (.ref T) (.type "tuple") = some true) (h : Q (.done (.ret (.bool true))) s) :
    wpAny M A (Builtin.«issubclass.nested» ⟨[.ref T, .type "tuple", .int dep tk], []⟩) Q E s := by
  obtain ⟨hh, g, d, tt, os⟩ := s
  have L3 : Looks M hh (isSubtype (.ref T) (.type "tuple")) true := looks_subIn X e3
  obtain ⟨c, dd, cd, sl, ho⟩ := cls_at X hc
  dsimp only at ho
  unfold Builtin.«issubclass.nested»
  have ht : typeOf (.type "tuple") = pure (.type "type") := by kernel_rfl
  refine wpAny_bind (wpAny_of_eq ht ?_)
  rw [if_pos (by decide)]
  k_delta "plainIsSubclass"
  unfold isType
  repeat lk
  exact h
theorem Tr_issub {Q : Value → Led → Prop} (h : Q (.bool true) obs) : Tr C A E ρ obs (call (.builtin "issubclass") [.ref 145, .type "tuple"]) Q := fun s S =>
  call_issubclass (S := fun _ R s => (KK C.W.w).In s.heap ∧ R (.ok (.ret (.bool true))) s) (fun _ _ _ _ _ hs => issubclass_outer (issub_nested hs.1 (by kernel_rfl) (by kernel_rfl) hs.2)) ⟨S.wd.k, ⟨obs, S, h⟩⟩

theorem b_issub : bootBuiltins (Str.ofString "issubclass") = some (.builtin "issubclass") := by decide +kernel
theorem b_type : bootBuiltins (Str.ofString "type") = some (.type "type") := by decide +kernel
theorem b_tuple : bootBuiltins (Str.ofString "tuple") = some (.type "tuple") := by decide +kernel

/-- t.name(args..) of a built-in type -/
theorem Ev_callM {o : Expr} {name : Str} {apos pos : Pos} {e : Expr} {r : List Expr} {T id : String} {Q : Value → Led → Prop}
    (ho : Ev C A E ρ obs o fun v o1 => v = .type T ∧ Ag C A E ρ o1 pos (e :: r) fun vs o2 => Tr C A E ρ o2 (call (.builtin id) vs) Q)
    (ht : typeOf (.type T) = pure (.type "type") := by kernel_rfl!) (hst : Manifest.isStub T = false := by decide +kernel) (ef : findCls [] (.type T) (.type "type") name = some (.val (.builtin id)) := by kernel_rfl!) (hh : handedIn (.builtin id) = true := by decide +kernel)
    (he : starEach (e :: r) C.env = (false, eval e C.env) :: starEach r C.env := by with_unfolding_all rfl)
    (hp : (backTo pos (starEach r C.env)).any (·.1) = false := by with_unfolding_all rfl)
    (hc : eval (.Call (.Attribute o name apos) (e :: r) [] pos) C.env = (do
      let ov ← eval o C.env
      standAt apos.atName
      let (f, first) ← holding [ov] (getMethod ov name (do return (← importBound o C.env).getD true))
      callWith pos f first (backTo pos (starEach (e :: r) C.env)) (backToKw pos (keywordEach [] C.env))) := by with_unfolding_all rfl) : Ev C A E ρ obs (.Call (.Attribute o name apos) (e :: r) [] pos) Q := fun s S => by
  refine methodCall_KW (pl := (do return (← importBound o C.env).getD true)) (wpAny_mono (ho s S) (fun v s1 ⟨o1, S1, ev, ha⟩ => ?_) fun _ _ x => x) hc
  subst ev
  have F : Fr ({} : Heap) mainGlobals s1.heap (gvar C.W.w) := ⟨ns3 S1.wd.k, fun b o e => by simp [Heap.get?] at e, Nat.zero_le _⟩
  refine method_type (K := []) F (fun _ _ e => nomatch e) ht hst ef hh ?_
  exact PyProof.Rows.callWith_builtin1 (wpAny_mono (ha _ (S1.tok _)) (fun vs s2 ⟨o2, S2, q⟩ => q s2 S2) fun _ _ x => x) he hp

theorem Tr_rsitem {a d : Addr} {x b v : Value} {i : Nat} {t : Tok} {Q : Value → Led → Prop} (h1 : (a, rsO x b d) ∈ obs) (h2 : (d, dO) ∈ obs) (hi : (i = 0 ∧ v = x) ∨ (i = 1 ∧ v = b)) (h : Q v obs) : Tr C A E ρ obs (call (.builtin "tuple.__getitem__") [.ref a, .int (i : Int) t]) Q := fun s S => by
  have I := S.inst h1 h2
  have e := I.at_
  have L0 := I.type (M := model PR C.W.w)
  have L1 : Looks (model PR C.W.w) s.heap (isSubtype (.ref 145) (.type "tuple")) true := looks_subIn S.wd.k (by kernel_rfl)
  have L2 : Looks (model PR C.W.w) s.heap (isInstance (.ref a) (.type "tuple")) true := L0.andThen L1
  have k1 : builtinKind "tuple.__getitem__" = some .slot := by kernel_rfl
  have k2 : splitId "tuple.__getitem__" = some ("tuple", "__getitem__") := by kernel_rfl
  refine wpAny_call ?_
  refine codeAny_call_builtin PySem.F.slot_tuple_getitem.plain PySem.F.entry_tuple_getitem ?_
  refine @check_slot (model PR C.W.w) _ _ s "tuple.__getitem__" "tuple" "__getitem__" (.ref a) [.int (i : Int) t] [] _ k1 k2 L2 (PySem.F.args_tuple_getitem_2 (.ref a) (.int (i : Int) t)) ?_
  unfold Builtin.«tuple.__getitem__»
  refine wpAny_bind (wpAny_pure ?_)
  refine wpAny_bind (wpAny_bind (wpAny_seqItems e rfl (wpAny_pure ?_)))
  refine wpAny_bind (wpAny_typeOf (typeIs_int _ _ _) ?_)
  rw [if_neg (by decide)]
  refine wpAny_bind (wpAny_specialOf (typeIs_int _ _ _) ib_index ?_)
  refine bm_if_false rfl ?_
  refine wpAny_bind (wpAny_of_eq (rfl : asIndex (.int (i : Int) t) = pure (i : Int)) ?_)
  rcases hi with ⟨rfl, rfl⟩ | ⟨rfl, rfl⟩
  · exact wpAny_pure ⟨obs, S, h⟩
  · exact wpAny_pure ⟨obs, S, h⟩
end
end Mine
set_option maxRecDepth 100000
set_option Elab.async false
set_option linter.unusedVariables false
namespace Mine
open PySem PySem.W PySem.Spec PyProof.Rows PySem.Calls

local macro_rules | `(tactic| walk_at "m") => `(tactic| first
  | assumption
  | with_reducible exact List.mem_cons_self
  | with_reducible exact setL_here
  | (with_reducible refine setL_there' ?_ (by dsimp only; decide +kernel); walk_at "m")
  | (with_reducible refine List.mem_cons_of_mem _ ?_; walk_at "m"))

noncomputable def oK (w : World) (a : Addr) : Obj := ((KK w).lookup a).getD default
theorem InstAt.ofK {w : World} {h : Heap} {x C dx : Addr} (X : (KK w).In h) (e1 : (KK w).lookup x = some (oK w x)) (e2 : (oK w x).cls = .ref C) (e3 : notCls (oK w x) = true) (e4 : (oK w x).dict = some dx) (e5 : (KK w).lookup dx = some (oK w dx)) : InstAt h x (oK w x) C (some (oK w dx)) :=
  ⟨X _ _ e1, e2, e3, by rw [e4]; exact X _ _ e5⟩

section
variable {C : Cx} {A : Around} {E : Value → Shared → Prop} {ρ : Loc} {obs : Led}

theorem Ev_attr {value : Expr} {attr : Str} {pos : Pos} {Q : Value → Led → Prop} (h : Ev C A E ρ obs value fun v o => Tr C A E ρ o (getAttr v attr true) Q)
    (he : eval (.Attribute value attr pos) C.env = (do
      let o ← eval value C.env
      standAt pos.atName
      let r ← holding [o] (getAttr o attr true)
      letTemporaryGo value o r
      pure r) := by with_unfolding_all rfl) : Ev C A E ρ obs (.Attribute value attr pos) Q := fun s S =>
  Attribute_any_ (wpAny_mono (h s S) (fun v s1 ⟨o, S1, q⟩ => q s1 S1) fun _ _ x => x) he

theorem Tr_index {p dp : Addr} {i : Nat} {t : Tok} {Q : Value → Led → Prop} (h : Q (.int (i : Int) t) obs)
    (e1 : (KK C.W.w).lookup p = some (oK C.W.w p) := by kernel_rfl!) (e2 : (oK C.W.w p).cls = .ref 73 := by kernel_rfl!) (e3 : notCls (oK C.W.w p) = true := by kernel_rfl!) (e4 : (oK C.W.w p).dict = some dp := by kernel_rfl!) (e5 : (KK C.W.w).lookup dp = some (oK C.W.w dp) := by kernel_rfl!)
    (hga : findIn (KK C.W.w) (.ref 73) "__getattribute__" = some (some (.builtin "object.__getattribute__")) := by kernel_rfl!) (hf : findObj (KK C.W.w) 73 (some (oK C.W.w dp)) (Str.ofString "index") = some (.value (.int (i : Int) t)) := by kernel_rfl!) :
    Tr C A E ρ obs (getAttr (.ref p) (Str.ofString "index") true) Q := fun s S =>
  get_value S.wd.k (InstAt.ofK S.wd.k e1 e2 e3 e4 e5) hga hf rfl ⟨obs, S.tok _, h⟩
end

theorem c_get {W : Wc} {A : Around} {E : Value → Shared → Prop} {a d p dp : Addr} {x b v : Value} {i : Nat} {tk : Tok} (hp : (p = 137 ∧ dp = 136 ∧ i = 0 ∧ tk = 365 ∧ v = x) ∨ (p = 140 ∧ dp = 139 ∧ i = 1 ∧ tk = 375 ∧ v = b)) (hroom : A.depth < recursionLimit) :
    Cl W A E (.ref 56) [.ref p, .ref a, .ref 145] [(a, rsO x b d), (d, dO)] (fun r => r = v) := by
  have hi : (i = 0 ∧ v = x) ∨ (i = 1 ∧ v = b) := by rcases hp with ⟨_, _, rfl, _, rfl⟩ | ⟨_, _, rfl, _, rfl⟩; exact .inl ⟨rfl, rfl⟩; exact .inr ⟨rfl, rfl⟩
  refine Cl_of (binds := [("self", .ref p), ("obj", .ref a), ("objtype", .ref 145)]) hroom (fun he L hc => ?_)
  with_reducible refine Ex_cons (Ex_if (Ts_cmp (Ev_name (v := .ref a) (by walk_at "m") (Ev_none (Tr_is_none (Tr_bool ?_))))))
  rw [if_neg Bool.false_ne_true]
  refine Ex_nil ?_
  with_reducible refine Ex_cons (Ex_if (Ts_not (Ts_value (Ev_callB b_issub (Ag_cons (Ev_callT b_type (Ag_cons (Ev_name (v := .ref a) (by walk_at "m") (Ag_nil (Tr_type List.mem_cons_self (Ag_cons (Ev_bi b_tuple (Ag_nil (Tr_issub (Tr_bool ?_)))))))))))))))
  show if (!true) = true then _ else _
  rw [if_neg (by decide)]
  refine Ex_nil ?_
  with_reducible refine Ex_cons (Ex_ret (Ev_callM (T := "tuple") (id := "tuple.__getitem__") (Ev_bi b_tuple ⟨rfl, Ag_cons (Ev_name (v := .ref a) (by walk_at "m") (Ag_cons (Ev_attr (Ev_name (v := .ref p) (by walk_at "m") ?_))))⟩)))
  rcases hp with ⟨rfl, rfl, rfl, rfl, rfl⟩ | ⟨rfl, rfl, rfl, rfl, rfl⟩
  · exact Tr_index (p := 137) (dp := 136) (i := 0) (t := 365) (Ag_nil (Tr_rsitem List.mem_cons_self (List.mem_cons_of_mem _ List.mem_cons_self) hi rfl))
  · exact Tr_index (p := 140) (dp := 139) (i := 1) (t := 375) (Ag_nil (Tr_rsitem List.mem_cons_self (List.mem_cons_of_mem _ List.mem_cons_self) hi rfl))

section
variable {C : Cx} {A : Around} {E : Value → Shared → Prop} {ρ : Loc} {obs : Led}
theorem St.ob2 {s : Shared} {a d : Addr} {x b : Value} (S : St C ρ obs s) (h1 : (a, rsO x b d) ∈ obs) (h2 : (d, dO) ∈ obs) : Ob s.heap [(a, rsO x b d), (d, dO)] := by
  have e1 := S.ob _ h1
  have e2 := S.ob _ h2
  refine ⟨fun p hp => ?_, ?_⟩
  · rcases List.mem_cons.mp hp with rfl | hp
    · exact ⟨e1.1, e1.2.1⟩
    · rw [List.mem_singleton.mp hp]; exact ⟨e2.1, e2.2.1⟩
  · refine List.nodup_cons.mpr ⟨fun h => ?_, List.nodup_cons.mpr ⟨fun h => (nomatch h), List.nodup_nil⟩⟩
    have h : a = d := List.mem_singleton.mp h
    have e3 := e1.1
    rw [h, e2.1] at e3
    have := congrArg (fun o : Option Obj => o.map (·.cls)) e3
    simp [rsO, dO] at this

theorem Tr_get {a d p dp : Addr} {x b v : Value} {i : Nat} {tk : Tok} {nm : Str} {Q : Value → Led → Prop} (h1 : (a, rsO x b d) ∈ obs) (h2 : (d, dO) ∈ obs) (hroom : A.depth < recursionLimit) (hp : (p = 137 ∧ dp = 136 ∧ i = 0 ∧ tk = 365 ∧ v = x) ∨ (p = 140 ∧ dp = 139 ∧ i = 1 ∧ tk = 375 ∧ v = b)) (hh : handedIn v = true) (h : Q v obs)
    (hga : findIn (KK C.W.w) (.ref 145) "__getattribute__" = some (some (.builtin "tuple.__getattribute__"))) (hf : findObj (KK C.W.w) 145 (some dO) nm = some (.bind (.ref 56) (.ref p))) (hk : findIn (KK C.W.w) (.ref 145) "__getattr__" = some none) :
    Tr C A E ρ obs (getAttr (.ref a) nm true) Q := fun s S => by
  have S1 := S.tok (s.toks + 1)
  have I := S1.inst h1 h2
  have L0 := I.type (M := model PR C.W.w)
  have L1 := looks_findIn (M := model PR C.W.w) S1.wd.k hga
  have L2 := looks_findIn (M := model PR C.W.w) S1.wd.k hk
  have L3 := looks_find (M := model PR C.W.w) S1.wd.k I hf
  have L4 : Looks (model PR C.W.w) s.heap (isInstance (.ref a) (.type "tuple")) true := L0.andThen (looks_subIn S1.wd.k (by kernel_rfl))
  have k1 : builtinKind "tuple.__getattribute__" = some .slot := by kernel_rfl
  have k2 : splitId "tuple.__getattribute__" = some ("tuple", "__getattribute__") := by kernel_rfl
  unfold getAttr getAttrBy
  refine wpAny_bind (wpAny_mkText (wpAny_holding (wpAny_bind (L0.here (wpAny_bind (L1.here ?_))))))
  show wpAny _ _ (getAttrByItsOwn _ _ _ _ _ _) _ _ _
  unfold getAttrByItsOwn
  refine wpAny_bind ?_
  show wpAny _ _ (typeLookup (.ref 145) "__getattr__") _ _ _
  refine L2.here (wpAny_bind (wpAny_attempt (wpAny_holding ?_)))
  show wpAny _ _ (boundAndCalled _ _ _) _ _ _
  unfold boundAndCalled
  refine wpAny_bind (wpAny_of_eq (PySem.F.slot_tuple_getattribute.bind (.ref a)) ?_)
  show wpAny _ _ (call (.builtin "tuple.__getattribute__") [.ref a, .str nm s.toks]) _ _ _
  refine wpAny_call ?_
  refine codeAny_call_builtin PySem.F.slot_tuple_getattribute.plain PySem.F.entry_tuple_ga ?_
  refine @check_slot (model PR C.W.w) _ _ { s with toks := s.toks + 1 } "tuple.__getattribute__" "tuple" "__getattribute__" (.ref a) [.str nm s.toks] [] _ k1 k2 L4 (PySem.F.args_tuple_getattribute_2 (.ref a) (.str nm s.toks)) ?_
  unfold Builtin.«object.__getattribute__»
  refine wpAny_bind (wpAny_pure (wpAny_bind (wpAny_pure (wpAny_bind (L0.here (wpAny_bind (L3.here ?_)))))))
  show wpAny _ _ (holding [.ref p] (call (.ref 56) [.ref p, .ref a, .ref 145]) >>= ret) _ _ _
  refine wpAny_bind (wpAny_holding (wpAny_mono (c_get hp (A := A.in1) (E := Fls) (by with_unfolding_all exact hroom) _ S1.wd (S1.ob2 h1 h2)) (fun r s' ⟨w', k, z, e⟩ => ?_) fun _ _ x => x.elim))
  subst e
  refine wpAny_pure ?_
  show wpAny _ _ (handedOut r) _ _ _
  rw [handedOut_of hh]
  exact wpAny_pure ⟨obs, S1.to w' k z, h⟩
theorem Tr_getx {a d : Addr} {x : Int} {t : Tok} {b : Value} {Q : Value → Led → Prop} (h1 : (a, rsO (.int x t) b d) ∈ obs) (h2 : (d, dO) ∈ obs) (hroom : A.depth < recursionLimit) (h : Q (.int x t) obs) : Tr C A E ρ obs (getAttr (.ref a) (Str.ofString "x") true) Q :=
  Tr_get h1 h2 hroom (.inl ⟨rfl, rfl, rfl, rfl, rfl⟩) rfl h (by kernel_rfl) (by kernel_rfl) (by kernel_rfl)
theorem Tr_getd {a d : Addr} {x : Value} {t : Tok} {b : Array UInt8} {Q : Value → Led → Prop} (h1 : (a, rsO x (.bytes b t) d) ∈ obs) (h2 : (d, dO) ∈ obs) (hroom : A.depth < recursionLimit) (h : Q (.bytes b t) obs) : Tr C A E ρ obs (getAttr (.ref a) (Str.ofString "data") true) Q :=
  Tr_get h1 h2 hroom (.inr ⟨rfl, rfl, rfl, rfl, rfl⟩) rfl h (by kernel_rfl) (by kernel_rfl) (by kernel_rfl)
end
end Mine
set_option maxRecDepth 100000
set_option Elab.async false
set_option linter.unusedVariables false
namespace Mine
open PySem PySem.W PySem.Spec PyProof.Rows PySem.Calls

theorem g_log (w : World) : gvar w (Str.ofString "LOG_TABLE") = some (.bytes LOGB 392) := by kernel_rfl
theorem g_exp (w : World) : gvar w (Str.ofString "EXP_TABLE") = some (.bytes EXPB 390) := by kernel_rfl

section
variable {C : Cx} {A : Around} {E : Value → Shared → Prop} {ρ : Loc} {obs : Led}

theorem Tr_bitem {v i : Expr} {l : List UInt8} {t u : Tok} {k : Nat} {Q : Value → Led → Prop} (hk : k < l.length) (hl : l.length ≤ 2 ^ 40) (h : ∀ t, Q (.int ((l.getD k 0).toNat : Int) t) obs)
    (hs : subscripted i false (.bytes l.toArray t) (.int (k : Int) u) = operate [.bytes l.toArray t, .int (k : Int) u] (getItem (.bytes l.toArray t) (.int (k : Int) u)) := by with_unfolding_all rfl) : Tr C A E ρ obs (subscriptTail v i (.bytes l.toArray t) (.int (k : Int) u)) Q := fun s S =>
  tail_any (typeIs_bytes _ _ _) FB.slot_bytes_getitem.lookup (getItem_bytes (by omega) (by omega) (by omega) ⟨obs, S.tok _, by simpa using h s.toks⟩) hs

theorem tab_get {l : List Nat} {k : Nat} (h : ∀ v ∈ l, v < 256) : ((l.map Nat.toUInt8).getD k 0).toNat = l.getD k 0 := by
  rw [List.getD_eq_getElem?_getD, List.getD_eq_getElem?_getD, List.getElem?_map]
  cases e : l[k]? with
  | none => rfl
  | some v =>
    have := h v (List.mem_of_getElem? e)
    simp [Nat.toUInt8, Nat.mod_eq_of_lt this]
theorem Tr_log {v i : Expr} {t u : Tok} {k : Nat} {Q : Value → Led → Prop} (hk : k < 256) (h : ∀ t, Q (.int (LOGN k : Int) t) obs)
    (hs : subscripted i false (.bytes LOGB t) (.int (k : Int) u) = operate [.bytes LOGB t, .int (k : Int) u] (getItem (.bytes LOGB t) (.int (k : Int) u)) := by with_unfolding_all rfl) : Tr C A E ρ obs (subscriptTail v i (.bytes LOGB t) (.int (k : Int) u)) Q :=
  Tr_bitem (l := LOGL.map Nat.toUInt8) (by rw [List.length_map, LOGL_len]; exact hk) (by rw [List.length_map, LOGL_len]; decide) (fun t => by
    rw [tab_get (fun v hv => Nat.lt_succ_of_lt (LOGL_lt v hv))]; exact h t) hs
theorem Tr_exp {v i : Expr} {t u : Tok} {k : Nat} {Q : Value → Led → Prop} (hk : k < 255) (h : ∀ t, Q (.int (EXPN k : Int) t) obs)
    (hs : subscripted i false (.bytes EXPB t) (.int (k : Int) u) = operate [.bytes EXPB t, .int (k : Int) u] (getItem (.bytes EXPB t) (.int (k : Int) u)) := by with_unfolding_all rfl) : Tr C A E ρ obs (subscriptTail v i (.bytes EXPB t) (.int (k : Int) u)) Q :=
  Tr_bitem (l := EXPL.map Nat.toUInt8) (by rw [List.length_map, EXPL_len]; exact hk) (by rw [List.length_map, EXPL_len]; decide) (fun t => by
    rw [tab_get EXPL_lt]; exact h t) hs

/-- a list as a generator's source -/
theorem it_list {iter : Expr} {l : Addr} {ol : Obj} {vs : List Value} (h : Ev C A E ρ obs iter fun v o => v = .ref l ∧ o = obs) (ho : (l, ol) ∈ obs) (hl : LsO ol vs) :
    ∀ s, St C ρ obs s → wpAny (model PR C.W.w) A (eval iter C.env) (fun xv s₁ => wpAny (model PR C.W.w) A (pyIter xv) (fun it s₂ => St C ρ obs s₂ ∧ ∃ I fp wr T, it = .ref I ∧ (∀ A' : Around, A'.handled = none → Walks PR C.W.w A' I fp wr vs.length (fun i v => vs[i]? = some v) T) ∧
      T 0 s₂.heap ∧ (∀ b ∈ fp, b < s₂.heap.objs.size) ∧ (∀ b ∈ wr, Foreign C obs b) ∧ (150 : Nat) ∉ fp) E s₁) E s := fun s S => by
  refine wpAny_mono (h s S) (fun xv s1 ⟨o1, S1, e1, e2⟩ => ?_) fun _ _ x => x
  subst e1 e2
  have hL := hl.isList (S1.ob _ ho).1
  have hlt : l < s1.heap.objs.size := Heap.lt_size (S1.ob _ ho).1
  have h203 := (S1.ob _ ho).2.1
  refine wpAny_pyIter_list hL ⟨(S1.push _ rfl).sb (fun _ h => h) (.skip (.refl _)), s1.heap.objs.size, [s1.heap.objs.size, l], [s1.heap.objs.size], fun i h => h.IsListIter s1.heap.objs.size l i ∧ h.IsList l vs.toArray, rfl, fun A' hA => ?_, ⟨⟨_, Heap.get?_push_size _ rfl, rfl, rfl⟩, hL.push _⟩, ?_, ?_, ?_⟩
  · have := Walks.list (prog := PR) (w := C.W.w) hA s1.heap.objs.size l (Nat.ne_of_lt hlt) vs.toArray
    simpa using this
  · intro b hb
    show b < (s1.heap.push _).objs.size
    rw [Heap.size_push]
    rcases List.mem_cons.mp hb with rfl | hb
    · exact Nat.lt_succ_self _
    · rw [List.mem_singleton.mp hb]; exact Nat.lt_succ_of_lt hlt
  · intro b hb
    rw [List.mem_singleton.mp hb]
    exact S1.old (Nat.le_refl _)
  · intro hb
    rcases List.mem_cons.mp hb with e | hb
    · exact absurd (Nat.le_trans S1.wd.big (Nat.le_of_eq e.symm)) (by decide)
    · have := List.mem_singleton.mp hb
      exact h203.1 this.symm
end

/-- the shares of a list: the i-th stands in the ledger -/
structure Shs (vs : List Value) (ps : List (Nat × Array UInt8)) (obs : Led) : Prop where
  len : vs.length = ps.length
  at_ : ∀ (i : Nat) p, ps[i]? = some p → ∃ a d t u, vs[i]? = some (.ref a) ∧ (a, rsO (.int (p.1 : Int) t) (.bytes p.2 u) d) ∈ obs ∧ (d, dO) ∈ obs
theorem Shs.val {vs : List Value} {ps : List (Nat × Array UInt8)} {obs : Led} (h : Shs vs ps obs) {i : Nat} {v : Value} (hv : vs[i]? = some v) : ∃ p a d t u, ps[i]? = some p ∧ v = .ref a ∧ (a, rsO (.int (p.1 : Int) t) (.bytes p.2 u) d) ∈ obs ∧ (d, dO) ∈ obs := by
  have hi : i < ps.length := by rw [← h.len]; exact (List.getElem?_eq_some_iff.mp hv).1
  obtain ⟨a, d, t, u, e, r⟩ := h.at_ i ps[i] (List.getElem?_eq_getElem hi)
  exact ⟨_, a, d, t, u, List.getElem?_eq_getElem hi, Option.some.inj (hv.symm.trans e), r⟩
theorem Shs.mono {vs : List Value} {ps : List (Nat × Array UInt8)} {obs obs' : Led} (h : Shs vs ps obs) (hs : ∀ p ∈ obs, p ∈ obs') : Shs vs ps obs' :=
  ⟨h.len, fun i p hp => let ⟨a, d, t, u, e, h1, h2⟩ := h.at_ i p hp; ⟨a, d, t, u, e, hs _ h1, hs _ h2⟩⟩
end Mine
set_option linter.unusedVariables false
namespace Mine
open PySem PySem.W PyProof.Rows

def bl (b : Array UInt8) : List Nat := b.toList.map UInt8.toNat
theorem bl_len (b : Array UInt8) : (bl b).length = b.size := by simp [bl]
theorem bl_lt {b : Array UInt8} {v : Nat} (h : v ∈ bl b) : v < 256 := by
  obtain ⟨c, _, e⟩ := List.mem_map.mp h
  have := c.toNat_lt
  omega
def lsum (ps : List (Nat × Array UInt8)) (x : Nat) : Nat := (ps.map fun p => LOGN (p.1 ^^^ x)).sum
def basis (ps : List (Nat × Array UInt8)) (x a : Nat) : Nat := (((lsum ps x : Int) - (LOGN (a ^^^ x) : Int) - (lsum ps a : Int)).fmod 255).toNat
def stepB (e v r : Nat) : Nat := r ^^^ (if v = 0 then 0 else EXPN ((LOGN v + e) % 255))
theorem stepB_lt {e v r : Nat} (h : r < 256) : stepB e v r < 256 := by
  unfold stepB
  refine Nat.xor_lt_two_pow (n := 8) h ?_
  split
  · decide
  · exact EXPN_lt _
def zipB (e : Nat) (b r : Array UInt8) : List Int := List.zipWith (fun v r => ((stepB e v r : Nat) : Int)) (bl b) (bl r)
def accA (ps : List (Nat × Array UInt8)) (x : Nat) (res : Array UInt8) (p : Nat × Array UInt8) : Array UInt8 := byteArr (zipB (basis ps x p.1) p.2 res)
def interpA (ps : List (Nat × Array UInt8)) (x sz : Nat) : Array UInt8 := match ps.find? (fun p => p.1 == x) with
  | some p => p.2
  | none => ps.foldl (accA ps x) (Array.replicate sz 0)
theorem zipB_len (e : Nat) (b r : Array UInt8) (h : b.size = r.size) : (zipB e b r).length = b.size := by
  unfold zipB; rw [List.length_zipWith, bl_len, bl_len, h, Nat.min_self]
theorem accA_size {ps : List (Nat × Array UInt8)} {x : Nat} {res : Array UInt8} {p : Nat × Array UInt8} (h : p.2.size = res.size) : (accA ps x res p).size = res.size := by
  unfold accA; rw [byteArr_size, zipB_len _ _ _ h, h]
theorem zipB_range {e : Nat} {b r : Array UInt8} : ∀ k ∈ zipB e b r, 0 ≤ k ∧ k < 256 := by
  intro k hk
  unfold zipB at hk
  obtain ⟨i, hi, e'⟩ := List.getElem_of_mem hk
  rw [List.length_zipWith] at hi
  rw [List.getElem_zipWith] at e'
  have hr : (bl r)[i] < 256 := bl_lt (List.getElem_mem _)
  have := stepB_lt (e := e) (v := (bl b)[i]) hr
  omega

/-- what the set keeps of a list -/
def dd (l : List Int) : List Int := l.foldl step_dedup []
theorem dd_go : ∀ (l σ : List Int), (l.foldl step_dedup σ).length ≤ σ.length + l.length ∧ ((l.foldl step_dedup σ).length = σ.length + l.length → l.Nodup ∧ ∀ x ∈ l, x ∉ σ)
  | [], σ => ⟨by simp, fun _ => ⟨List.nodup_nil, fun _ h => nomatch h⟩⟩
  | x :: l, σ => by
    have hs : step_dedup σ x = if σ.any (· == x) then σ else σ ++ [x] := rfl
    rw [List.foldl_cons]
    by_cases h : σ.any (· == x) = true
    · rw [hs, if_pos h]
      obtain ⟨a, b⟩ := dd_go l σ
      rw [List.length_cons]
      exact ⟨by omega, fun e => by omega⟩
    · rw [hs, if_neg h]
      obtain ⟨a, b⟩ := dd_go l (σ ++ [x])
      rw [List.length_append, List.length_singleton] at a b
      rw [List.length_cons]
      refine ⟨by omega, fun e => ?_⟩
      obtain ⟨c, d⟩ := b (by omega)
      have hx : x ∉ σ := fun hm => h (List.any_eq_true.mpr ⟨x, hm, by simp⟩)
      refine ⟨List.nodup_cons.mpr ⟨fun hm => d x hm (List.mem_append_right _ List.mem_cons_self), c⟩, fun y hy => ?_⟩
      rcases List.mem_cons.mp hy with rfl | hy
      · exact hx
      · exact fun hm => d y hy (List.mem_append_left _ hm)
theorem dd_nodup_go : ∀ (l σ : List Int), l.Nodup → (∀ x ∈ l, x ∉ σ) → (l.foldl step_dedup σ).length = σ.length + l.length
  | [], σ, _, _ => by simp
  | x :: l, σ, hn, hd => by
    obtain ⟨h1, h2⟩ := List.nodup_cons.mp hn
    have hx : ¬ σ.any (· == x) = true := fun h => by
      obtain ⟨y, hy, e⟩ := List.any_eq_true.mp h
      rw [beq_iff_eq] at e; subst e
      exact hd _ List.mem_cons_self hy
    have hs : step_dedup σ x = σ ++ [x] := if_neg hx
    rw [List.foldl_cons, hs, dd_nodup_go l _ h2 (fun y hy hm => ?_)]
    · rw [List.length_append, List.length_singleton, List.length_cons]; omega
    · rcases List.mem_append.mp hm with hm | hm
      · exact hd y (List.mem_cons_of_mem _ hy) hm
      · rw [List.mem_singleton] at hm; subst hm; exact h1 hy
theorem dd_len_iff (l : List Int) : (dd l).length = l.length ↔ l.Nodup := by
  constructor
  · intro h
    have := (dd_go l []).2 (by simpa [dd] using h)
    exact this.1
  · intro h
    have := dd_nodup_go l [] h (fun _ _ hm => nomatch hm)
    simpa [dd] using this
theorem dd_same_go (k : Int) : ∀ (l : List Int), (∀ x ∈ l, x = k) → l.foldl step_dedup [k] = [k]
  | [], _ => rfl
  | x :: l, h => by
    have hx := h x List.mem_cons_self
    subst hx
    have : step_dedup [x] x = [x] := by unfold step_dedup; simp
    rw [List.foldl_cons, this]
    exact dd_same_go x l fun y hy => h y (List.mem_cons_of_mem _ hy)
theorem dd_same {l : List Int} {k : Int} (hne : l ≠ []) (h : ∀ x ∈ l, x = k) : dd l = [k] := by
  cases l with
  | nil => exact absurd rfl hne
  | cons x l =>
    have hx := h x List.mem_cons_self
    subst hx
    show (l.foldl step_dedup (step_dedup [] x)) = [x]
    have : step_dedup ([] : List Int) x = [x] := rfl
    rw [this]
    exact dd_same_go x l fun y hy => h y (List.mem_cons_of_mem _ hy)
theorem dd_mem (l : List Int) : ∀ x, x ∈ dd l ↔ x ∈ l := by
  have go : ∀ (l σ : List Int) x, x ∈ l.foldl step_dedup σ ↔ x ∈ σ ∨ x ∈ l := by
    intro l
    induction l with
    | nil => intro σ x; simp
    | cons y l ih =>
      intro σ x
      rw [List.foldl_cons, ih]
      unfold step_dedup
      split
      · rename_i h
        obtain ⟨z, hz, e⟩ := List.any_eq_true.mp h
        rw [beq_iff_eq] at e; subst e
        constructor
        · rintro (h | h)
          · exact .inl h
          · exact .inr (List.mem_cons_of_mem _ h)
        · rintro (h | h)
          · exact .inl h
          · rcases List.mem_cons.mp h with rfl | h
            · exact .inl hz
            · exact .inr h
      · rw [List.mem_append, List.mem_singleton, List.mem_cons]
        constructor
        · rintro ((h | h) | h)
          · exact .inl h
          · exact .inr (.inl h)
          · exact .inr (.inr h)
        · rintro (h | h | h)
          · exact .inl (.inl h)
          · exact .inl (.inr h)
          · exact .inr h
  intro x
  have := go l [] x
  simpa [dd] using this
theorem range_getD (l : List Int) : (List.range l.length).map (fun i => l.getD i 0) = l := by
  apply List.ext_getElem?
  intro i
  rw [List.getElem?_map]
  by_cases h : i < l.length
  · rw [List.getElem?_range h]
    simp [h]
  · rw [List.getElem?_eq_none (by simpa using Nat.le_of_not_lt h), List.getElem?_eq_none (Nat.le_of_not_lt h)]; rfl
theorem firstMet_list (l : List Int) : firstMet (fun i => l.getD i 0) l.length = dd l := by
  unfold firstMet dd; rw [range_getD]
theorem preSum_list (l : List Int) : preSum (fun i => l.getD i 0) l.length = l.sum := by
  rw [preSum_getD, List.take_length]

/-- the points may be read -/
structure Gd (ps : List (Nat × Array UInt8)) (sz : Nat) : Prop where
  ne : ps ≠ []
  nd : (ps.map (·.1)).Nodup
  same : ∀ p ∈ ps, p.2.size = sz
def xsI (ps : List (Nat × Array UInt8)) : List Int := ps.map fun p => (p.1 : Int)
def lsI (ps : List (Nat × Array UInt8)) : List Int := ps.map fun p => (p.2.size : Int)
theorem xsI_nodup {ps : List (Nat × Array UInt8)} : (xsI ps).Nodup ↔ (ps.map (·.1)).Nodup := by
  unfold xsI
  have : (ps.map fun p => (p.1 : Int)) = (ps.map (·.1)).map (fun n : Nat => (n : Int)) := by rw [List.map_map]; rfl
  rw [this]
  constructor
  · intro h
    exact (List.pairwise_map.mp h).imp fun hne e => hne (by rw [e])
  · intro h
    exact (List.pairwise_map.mpr (h.imp fun hne e => hne (by omega)))
end Mine
set_option maxRecDepth 100000
set_option Elab.async false
set_option linter.unusedVariables false
namespace Mine
open PySem PySem.W PySem.Spec PyProof.Rows PySem.Calls PySem.W.KBw

local macro_rules | `(tactic| walk_at "m") => `(tactic| first
  | assumption
  | with_reducible exact List.mem_cons_self
  | with_reducible exact setL_here
  | (with_reducible refine setL_there' ?_ (by dsimp only; decide +kernel); walk_at "m")
  | (with_reducible refine List.mem_cons_of_mem _ ?_; walk_at "m"))

section
variable {C : Cx} {A : Around} {E : Value → Shared → Prop} {ρ : Loc} {obs : Led}
theorem Ex_expr {value : Expr} {pos : Pos} {Q : Flow → Loc → Led → Prop} (h : Ev C A E ρ obs value fun v o => dropValue value pos v = pure .next ∧ Q .next ρ o)
    (hi : interactive C.env = false := by kernel_rfl!) (hs : swapsWith value none pos.line C.env = pure false := by with_unfolding_all rfl) : Ex C A E ρ obs (exec (.Expr value pos) C.env) Q := fun s S => by
  rw [arm_exec_Expr]
  refine wpAny_bind (wpAny_standAt ?_)
  rw [hi, if_neg Bool.false_ne_true]
  refine wpAny_bind (wpAny_of_eq hs ?_)
  rw [if_neg Bool.false_ne_true]
  refine wpAny_bind (wpAny_mono (h s S) (fun v s1 ⟨o1, S1, e, q⟩ => ?_) fun _ _ x => x)
  exact wpAny_of_eq e ⟨ρ, o1, S1, q⟩
theorem Tr_len_bytes {b : Array UInt8} {t : Tok} {Q : Value → Led → Prop} (hb : b.size ≤ 2 ^ 40) (h : ∀ t, Q (.int (b.size : Int) t) obs) : Tr C A E ρ obs (call (.builtin "len") [.bytes b t]) Q := fun s S =>
  len_bytes hb ⟨obs, (S.tok _).tok _, h _⟩


theorem dz_at (n : Nat) : Dz (n + 4) (n + 2) (n + 3) n (n + 1) := by
  constructor <;> (show (_ : Nat) ≠ _; omega)
/-- zip of two bytes as a generator's source -/
theorem it_zip {e : Expr} {r : List Expr} {xp pos : Pos} {b1 b2 : Array UInt8} {t1 t2 : Tok} (hq : C.W.gq = bareQ) (hlen : b1.size = b2.size) (h : Ag C A E ρ obs pos (e :: r) fun vs o => vs = [.bytes b1 t1, .bytes b2 t2] ∧ o = obs)
    (hv : gvar C.W.w (Str.ofString "zip") = none := by kernel_rfl!) (hk : C.env.kindOf (Str.ofString "zip") = some .globalImplicit := by kernel_rfl!)
    (he : starEach (e :: r) C.env = (false, eval e C.env) :: starEach r C.env := by with_unfolding_all rfl) (hp : (backTo pos (starEach r C.env)).any (·.1) = false := by with_unfolding_all rfl) :
    ∀ s, St C ρ obs s → wpAny (model PR C.W.w) A (eval (.Call (.Name (Str.ofString "zip") xp) (e :: r) [] pos) C.env) (fun xv s₁ => wpAny (model PR C.W.w) A (pyIter xv) (fun it s₂ => St C ρ obs s₂ ∧ ∃ I fp wr T Mid, it = .ref I ∧
      (∀ A' : Around, A'.handled = none → WalksU PR C.W.w A' I fp wr b1.size (fun i vals => ∃ x y u v, b1[i]? = some x ∧ b2[i]? = some y ∧ vals = #[.int (x.toNat : Int) u, .int (y.toNat : Int) v]) T Mid) ∧
      T 0 s₂.heap ∧ (∀ b ∈ fp, b < s₂.heap.objs.size) ∧ (∀ b ∈ wr, Foreign C obs b) ∧ (150 : Nat) ∉ fp) E s₁) E s := fun s S => by
  refine Call_ (wpAny_mono (Ev_bi (C := C) (A := A) (E := E) (ρ := ρ) (obs := obs) (Q := fun v o => v = .type "zip" ∧ o = obs) b_zip ⟨rfl, rfl⟩ hv hk (by decide +kernel) s S) (fun v s1 ⟨o, S1, q1⟩ => ?_) fun _ _ x => x)
  obtain ⟨rfl, rfl⟩ := q1
  refine PyProof.Rows.callWith_type1 (wpAny_mono (h s1 S1) (fun vs s2 ⟨o2, S2, e1, e2⟩ => ?_) fun _ _ x => x) he hp
  subst e1 e2
  refine call_zipB fun h' a1 a2 a3 a4 a5 a6 a7 => ?_
  have hbare : AllBare s2.gens := by have := S2.wd.bare; rw [hq] at this; exact this
  have S3 : St C ρ o2 { s2 with heap := h' } := S2.news (gens := s2.gens) (tk := s2.toks) a7 (by rw [a6]; exact Nat.le_add_right _ _) hq hbare
  refine wpAny_pyIter_zip (s := { s2 with heap := h' }) a1 ⟨S3, s2.heap.objs.size + 4, [s2.heap.objs.size + 4, s2.heap.objs.size + 2, s2.heap.objs.size + 3, s2.heap.objs.size, s2.heap.objs.size + 1], [s2.heap.objs.size + 4, s2.heap.objs.size + 3, s2.heap.objs.size, s2.heap.objs.size + 1], _, _, rfl,
    fun A' hA => zipB_walks hA (dz_at s2.heap.objs.size) b1 b2 t1 t2 hlen, ⟨a1, a2, ⟨_, _, a3⟩, a4, a5⟩, ?_, ?_, ?_⟩
  · intro b hb
    show b < h'.objs.size
    rw [a6]
    simp only [List.mem_cons, List.not_mem_nil, or_false] at hb
    rcases hb with rfl | rfl | rfl | rfl | rfl
    · exact Nat.lt_succ_self _
    · exact Nat.add_lt_add_left (by decide) _
    · exact Nat.add_lt_add_left (by decide) _
    · exact Nat.lt_add_of_pos_right (by decide)
    · exact Nat.add_lt_add_left (by decide) _
  · intro b hb
    simp only [List.mem_cons, List.not_mem_nil, or_false] at hb
    rcases hb with rfl | rfl | rfl | rfl
    · exact S2.old (Nat.le_add_right _ _)
    · exact S2.old (Nat.le_add_right _ _)
    · exact S2.old (Nat.le_refl _)
    · exact S2.old (Nat.le_add_right _ _)
  · intro hb
    have hbig := S2.wd.big
    have : ∀ k : Nat, (150 : Nat) ≠ s2.heap.objs.size + k := fun k e => absurd (Nat.le_trans hbig (Nat.le_add_right _ k)) (by rw [← e]; decide)
    simp only [List.mem_cons, List.not_mem_nil, or_false] at hb
    rcases hb with e | e | e | e | e
    · exact this _ e
    · exact this _ e
    · exact this _ e
    · exact this 0 e
    · exact this _ e
end

theorem preSum_bd {val : Nat → Int} (h : ∀ i, 0 ≤ val i ∧ val i < 256) : ∀ j, 0 ≤ preSum val j ∧ preSum val j ≤ 256 * (j : Int)
  | 0 => ⟨Int.le_refl _, Int.le_refl _⟩
  | j + 1 => by
    have ih := preSum_bd h j
    have hj := h j
    show 0 ≤ preSum val j + val j ∧ preSum val j + val j ≤ 256 * ((j + 1 : Nat) : Int)
    constructor
    · omega
    · rw [Int.natCast_add]; omega
theorem sum_fit {val : Nat → Int} {n : Nat} (h : ∀ i, 0 ≤ val i ∧ val i < 256) (hn : n ≤ 100) : ∀ j, j < n → InLong (val j) ∧ InLong (preSum val (j + 1)) := fun j hj => by
  have h1 := h j
  have h2 := preSum_bd h (j + 1)
  unfold InLong
  constructor
  · omega
  · omega
def lgI (ps : List (Nat × Array UInt8)) (x : Nat) : List Int := ps.map fun p => (LOGN (p.1 ^^^ x) : Int)
theorem lgI_sum (ps : List (Nat × Array UInt8)) (x : Nat) : (lgI ps x).sum = (lsum ps x : Int) := by
  unfold lgI lsum
  induction ps with
  | nil => rfl
  | cons p ps ih => rw [List.map_cons, List.sum_cons, ih, List.map_cons, List.sum_cons]; omega
theorem lgI_bd (ps : List (Nat × Array UInt8)) (x : Nat) (i : Nat) : 0 ≤ (lgI ps x).getD i 0 ∧ (lgI ps x).getD i 0 < 256 := by
  rw [List.getD_eq_getElem?_getD]
  unfold lgI
  rw [List.getElem?_map]
  cases ps[i]? with
  | none => exact ⟨Int.le_refl _, by show (0 : Int) < 256; decide⟩
  | some p =>
    have := LOGN_lt (p.1 ^^^ x)
    show (0 : Int) ≤ (LOGN (p.1 ^^^ x) : Int) ∧ (LOGN (p.1 ^^^ x) : Int) < 256
    omega

theorem c_interp {W : Wc} {A : Around} {l x sz : Nat} {ol : Obj} {vs : List Value} {ps : List (Nat × Array UInt8)} {SH : Led} {tx : Tok} {X : Shared → Value → Shared → Prop} (hq : W.gq = bareQ) (hdq : W.dq = fun _ => True) (hh : A.handled = none) (hroom : A.depth + 2 < recursionLimit)
    (hl : LsO ol vs) (hv : Shs vs ps ((l, ol) :: SH)) (hp : ∀ p ∈ ps, p.1 < 256) (hx : x < 256) (hlen : ps.length ≤ 100) (hsz : sz ≤ 100) (hg : Gd ps sz) :
    ClE W A (.ref 155) [.ref l, .int (x : Int) tx] ((l, ol) :: SH) (fun r => ∃ t, r = .bytes (interpA ps x sz) t) X := by
  refine ClE_of (EB := fun _ => Fls) (binds := [("shares", .ref l), ("x", .int (x : Int) tx)]) (Nat.lt_of_succ_lt (Nat.lt_of_succ_lt hroom)) (fun s w ho hc => ?_) (fun _ _ _ q => q.elim)
  have hm : (l, ol) ∈ (l, ol) :: SH := List.mem_cons_self
  have hn : vs.length = ps.length := hv.len
  have hd : (A.deeper (envF W.w 155 s.heap.objs.size)).depth = A.depth + 1 := rfl
  with_reducible refine Ex_cons (Ex_expr (Ev_str fun t0 => ⟨by with_unfolding_all rfl, ?_⟩))
  with_reducible refine Ex_cons (Ex_assign (Ev_set_gen (n := vs.length) (F := fun i y => ∃ t, y = .int ((xsI ps).getD i 0) t) (fun i => (xsI ps).getD i 0) hq (Ev_gen (ρf := []) hq (by with_unfolding_all exact hh) (by rw [hd]; omega) (it_list (Ev_name (v := .ref l) (by walk_at "m") ⟨rfl, rfl⟩) hm hl) ?_ (List.forall_mem_nil _)) (fun i v h => h) ?_ ?_))
  · intro A' E' W' he L code i v hw hA hdp hi hP
    obtain ⟨p, a, d, t, u, e1, rfl, e2, e3⟩ := hv.val hP
    with_reducible refine Ev_attr (Ev_name (v := .ref a) (by walk_at "m") (Tr_getx e2 e3 (by rw [hd] at hdp; omega) ?_))
    refine ⟨t, ?_⟩
    unfold xsI
    rw [List.getD_eq_getElem?_getD, List.getElem?_map, e1]; rfl
  · have : scanBound = 4096 := rfl
    omega
  intro sa so hsa hso
  have hxl : (xsI ps).length = vs.length := by rw [hn]; simp [xsI]
  have hll : (lsI ps).length = vs.length := by rw [hn]; simp [lsI]
  rw [← hxl, firstMet_list] at hso
  have hxd : (dd (xsI ps)).length = ps.length := by rw [(dd_len_iff _).mpr (xsI_nodup.mpr hg.nd), hxl, hn]
  with_reducible refine Ex_cons (Ex_if (Ts_cmp (Ev_callB b_len (Ag_cons (Ev_name (v := .ref sa) (by walk_at "m") (Ag_nil (Tr_len_set (l := dd (xsI ps)) List.mem_cons_self hso fun t1 => Ev_callB b_len (Ag_cons (Ev_name (v := .ref l) (by walk_at "m") (Ag_nil (Tr_len (by walk_at "m") hl (by omega) fun t2 => Tn_ne (Tr_bool ?_))))))))))))
  rw [hxd, hn, if_neg (by simp)]
  refine Ex_nil ?_
  with_reducible refine Ex_cons (Ex_assign (Ev_set_gen (n := vs.length) (F := fun i y => ∃ t, y = .int ((lsI ps).getD i 0) t) (fun i => (lsI ps).getD i 0) hq (Ev_gen (ρf := []) hq (by with_unfolding_all exact hh) (by rw [hd]; omega) (it_list (Ev_name (v := .ref l) (by walk_at "m") ⟨rfl, rfl⟩) (List.mem_cons_of_mem _ hm) hl) ?_ (List.forall_mem_nil _)) (fun i v h => h) ?_ ?_))
  · intro A' E' W' he L code i v hw hA hdp hi hP
    obtain ⟨p, a, d, t, u, e1, rfl, e2, e3⟩ := hv.val hP
    have hpsz := hg.same p (List.mem_of_getElem? e1)
    with_reducible refine Ev_callB b_len (Ag_cons (Ev_attr (Ev_name (v := .ref a) (by walk_at "m") (Tr_getd (List.mem_cons_of_mem _ e2) (List.mem_cons_of_mem _ e3) (by rw [hd] at hdp; omega) (Ag_nil (Tr_len_bytes (by omega) fun t3 => ?_))))))
    refine ⟨t3, ?_⟩
    unfold lsI
    rw [List.getD_eq_getElem?_getD, List.getElem?_map, e1]; rfl
  · have : scanBound = 4096 := rfl
    omega
  intro sb sbo hsb hsbo
  have hne : lsI ps ≠ [] := by
    intro e
    have := congrArg List.length e
    rw [hll, hn] at this
    exact hg.ne (List.length_eq_zero_iff.mp this)
  have hds : dd (lsI ps) = [(sz : Int)] := dd_same hne fun y hy => by
    obtain ⟨p, hp', rfl⟩ := List.mem_map.mp hy
    rw [hg.same p hp']
  rw [← hll, firstMet_list, hds] at hsbo
  with_reducible refine Ex_cons (Ex_if (Ts_cmp (Ev_callB b_len (Ag_cons (Ev_name (v := .ref sb) (by walk_at "m") (Ag_nil (Tr_len_set (l := [(sz : Int)]) List.mem_cons_self hsbo fun t1 => En_int (i := 1) fun t2 => Tn_ne (Tr_bool ?_))))))))
  rw [if_neg (by simp)]
  refine Ex_nil ?_
  with_reducible refine Ex_cons (Ex_if (Ts_cmp (Ev_name (v := .int (x : Int) tx) (by walk_at "m") (Ev_name (v := .ref sa) (by walk_at "m") (Tr_in_set (l := dd (xsI ps)) (by walk_at "m") hso (Tr_bool ?_))))))
  have hin : ((dd (xsI ps)).any (· == (x : Int))) = (ps.find? (fun p => p.1 == x)).isSome := by
    rw [Bool.eq_iff_iff, List.any_eq_true, List.find?_isSome]
    constructor
    · rintro ⟨y, hy, e⟩
      rw [beq_iff_eq] at e; subst e
      obtain ⟨p, hp', e⟩ := List.mem_map.mp ((dd_mem _ _).mp hy)
      exact ⟨p, hp', by simp only [beq_iff_eq]; omega⟩
    · rintro ⟨p, hp', e⟩
      rw [beq_iff_eq] at e; subst e
      exact ⟨_, (dd_mem _ _).mpr (List.mem_map.mpr ⟨p, hp', rfl⟩), by simp⟩
  rw [hin]
  have hA : (A.deeper (envF W.w 155 s.heap.objs.size)).handled = none := hh
  cases hf : ps.find? (fun p => p.1 == x) with
  | some p0 =>
    have hIA : interpA ps x sz = p0.2 := by unfold interpA; rw [hf]
    rw [Option.isSome_some, if_pos rfl, hIA]
    with_reducible refine Ex_cons (Ex_forC (fun c e => hc _ c e) (Ev_name (v := .ref l) (by walk_at "m") (Tr_iter_list (by walk_at "m") hl fun it ib hit hib => ?_)))
    refine ⟨it, ib, _, LiP l, _, _, _, rfl, rfl, nx_list (C := ⟨W, s.heap, envF W.w 155 s.heap.objs.size⟩) hA hit hl, hib, fun i ρ o' => (Str.ofString "x", Value.int (x : Int) tx) ∈ ρ ∧ o' = (sb, sbo) :: (sa, so) :: (l, ol) :: SH ∧ ∀ j, j < i → ∀ p, ps[j]? = some p → p.1 ≠ x, ?_, ?_, ?_, ?_⟩
    · rintro i ρ o' ⟨_, rfl, _⟩ p hp'
      rw [List.mem_singleton.mp hp']; walk_at "m"
    · exact ⟨by walk_at "m", rfl, fun j hj => absurd hj (Nat.not_lt_zero _)⟩
    · rintro i ρ o' v ib' hi' hvi hib' ⟨m1, rfl, hno⟩
      obtain ⟨p, a, d, t, u, e1, rfl, e2, e3⟩ := hv.val hvi
      have up : ∀ q ∈ (l, ol) :: SH, q ∈ (it, ib') :: (sb, sbo) :: (sa, so) :: (l, ol) :: SH := fun q hq => List.mem_cons_of_mem _ (List.mem_cons_of_mem _ (List.mem_cons_of_mem _ hq))
      with_reducible refine Ex_cons (Ex_if (Ts_cmp (Ev_attr (Ev_name (v := .ref a) (by walk_at "m") (Tr_getx (up _ e2) (up _ e3) (by rw [hd]; omega) (Ev_name (v := .int (x : Int) tx) (by walk_at "m") (Tn_eq (Tr_bool ?_))))))))
      by_cases hpx : p.1 = x
      · rw [beq_iff_eq.mpr hpx, if_pos rfl]
        have hp0 : p0 = p := by
          rw [List.find?_eq_some_iff_getElem] at hf
          obtain ⟨h1, j, hj, h2, h3⟩ := hf
          rcases Nat.lt_trichotomy i j with h | h | h
          · have := h3 i h
            have e4 : ps[i]? = some ps[i] := List.getElem?_eq_getElem _
            rw [e1] at e4
            rw [← Option.some.inj e4] at this
            simp [hpx] at this
          · subst h
            have e4 : ps[i]? = some ps[i] := List.getElem?_eq_getElem _
            rw [e1, h2] at e4
            exact (Option.some.inj e4).symm
          · have := hno j h ps[j] (List.getElem?_eq_getElem _)
            rw [h2] at this
            rw [beq_iff_eq] at h1
            exact absurd h1 this
        with_reducible refine Ex_cons (Ex_ret (Ev_attr (Ev_name (v := .ref a) (by walk_at "m") (Tr_getd (up _ e2) (up _ e3) (by rw [hd]; omega) ?_))))
        exact ⟨u, by rw [hp0]; rfl⟩
      · rw [beq_eq_false_iff_ne.mpr hpx, if_neg Bool.false_ne_true]
        refine Ex_nil (Ex_nil ⟨_, Sb.refl _, by walk_at "m", rfl, fun j hj q hq => ?_⟩)
        rcases Nat.lt_or_ge j i with h | h
        · exact hno j h q hq
        · have : j = i := by omega
          subst this
          rw [e1] at hq
          rw [← Option.some.inj hq]; exact hpx
    · rintro ρ o' ⟨_, _, hno⟩
      exfalso
      rw [List.find?_eq_some_iff_getElem] at hf
      obtain ⟨h1, j, hj, h2, h3⟩ := hf
      rw [beq_iff_eq] at h1
      exact hno j (by rw [hn]; exact hj) _ (List.getElem?_eq_getElem hj) (by rw [h2]; exact h1)
  | none =>
    have hIA : interpA ps x sz = ps.foldl (accA ps x) (Array.replicate sz 0) := by unfold interpA; rw [hf]
    rw [Option.isSome_none, if_neg Bool.false_ne_true, hIA]
    refine Ex_nil ?_
    have hgl : (lgI ps x).length = vs.length := by rw [hn]; simp [lgI]
    with_reducible refine Ex_cons (Ex_assign (Ev_sum_gen (n := vs.length) (F := fun i y => ∃ t, y = .int ((lgI ps x).getD i 0) t) (fun i => (lgI ps x).getD i 0) hq (Ev_gen (ρf := [(Str.ofString "x", .int (x : Int) tx)]) hq (by with_unfolding_all exact hh) (by rw [hd]; omega) (it_list (Ev_name (v := .ref l) (by walk_at "m") ⟨rfl, rfl⟩) (List.mem_cons_of_mem _ (List.mem_cons_of_mem _ hm)) hl) ?_ ?_) (fun i v h => h) (sum_fit (lgI_bd ps x) (by omega)) fun t4 => ?_))
    · intro A' E' W' he L code i v hw hA' hdp hi hP
      obtain ⟨p, a, d, t, u, e1, rfl, e2, e3⟩ := hv.val hP
      have up : ∀ q ∈ (l, ol) :: SH, q ∈ (sb, sbo) :: (sa, so) :: (l, ol) :: SH := fun q hq => List.mem_cons_of_mem _ (List.mem_cons_of_mem _ hq)
      with_reducible refine Ev_sub (Ev_glob (v := .bytes LOGB 392) (g_log _) (Ev_bin (Ev_attr (Ev_name (v := .ref a) (by walk_at "m") (Tr_getx (up _ e2) (up _ e3) (by rw [hd] at hdp; omega) (Ev_name (v := .int (x : Int) tx) (by walk_at "m") (Tn_xor fun t5 => Tr_log ?_ fun t6 => ?_)))))))
      · exact Nat.xor_lt_two_pow (n := 8) (hp p (List.mem_of_getElem? e1)) hx
      · refine ⟨t6, ?_⟩
        unfold lgI
        rw [List.getD_eq_getElem?_getD, List.getElem?_map, e1]; rfl
    · intro p hp'
      rw [List.mem_singleton.mp hp']; walk_at "m"
    rw [← hgl, preSum_list, lgI_sum]
    with_reducible refine Ex_cons (Ex_assign (Ev_callT b_bytes (Ag_cons (Ev_pop (k := (sz : Int)) hdq (Ev_name (v := .ref sb) (by walk_at "m") ⟨sb, sbo, _, rfl, rfl, hsb, hsbo, fun t5 => Ag_nil (Tr_bytes_int (by omega) fun t6 => ?_)⟩)))))
    have hrep : (Array.replicate sz (0 : UInt8)).size = sz := by simp
    have hfold : ∀ i, ((ps.take i).foldl (accA ps x) (Array.replicate sz 0)).size = sz := by
      intro i
      have go : ∀ (qs : List (Nat × Array UInt8)) (r : Array UInt8), (∀ p ∈ qs, p.2.size = sz) → r.size = sz → (qs.foldl (accA ps x) r).size = sz := by
        intro qs
        induction qs with
        | nil => intro r _ h; exact h
        | cons p qs ih =>
          intro r h h2
          rw [List.foldl_cons]
          refine ih _ (fun q hq => h q (List.mem_cons_of_mem _ hq)) ?_
          rw [accA_size (by rw [h p List.mem_cons_self, h2]), h2]
      exact go _ _ (fun p hp' => hg.same p (List.mem_of_mem_take hp')) hrep
    with_reducible refine Ex_cons (Ex_forC (fun c e => hc _ c e) (Ev_name (v := .ref l) (by walk_at "m") (Tr_iter_list (by walk_at "m") hl fun it ib hit hib => ?_)))
    refine ⟨it, ib, _, LiP l, _, _, _, rfl, rfl, nx_list (C := ⟨W, s.heap, envF W.w 155 s.heap.objs.size⟩) hA hit hl, hib, fun i ρ o' => (Str.ofString "x", Value.int (x : Int) tx) ∈ ρ ∧ (Str.ofString "shares", Value.ref l) ∈ ρ ∧ (Str.ofString "log_prod", Value.int (lsum ps x : Int) t4) ∈ ρ ∧ o' = (sa, so) :: (l, ol) :: SH ∧ ∃ t, (Str.ofString "result", Value.bytes ((ps.take i).foldl (accA ps x) (Array.replicate sz 0)) t) ∈ ρ, ?_, ?_, ?_, ?_⟩
    · rintro i ρ o' ⟨_, _, _, rfl, _⟩ p hp'
      rw [List.mem_singleton.mp hp']; walk_at "m"
    · exact ⟨by walk_at "m", by walk_at "m", by walk_at "m", rfl, t6, by simp only [List.take_zero, List.foldl_nil]; walk_at "m"⟩
    · rintro i ρ o' v ib' hi' hvi hib' ⟨m1, m2, m3, rfl, t7, m4⟩
      obtain ⟨p, a, d, t, u, e1, rfl, e2, e3⟩ := hv.val hvi
      have up : ∀ q ∈ (l, ol) :: SH, q ∈ (it, ib') :: (sa, so) :: (l, ol) :: SH := fun q hq => List.mem_cons_of_mem _ (List.mem_cons_of_mem _ hq)
      have hp1 := hp p (List.mem_of_getElem? e1)
      have hgl2 : (lgI ps p.1).length = vs.length := by rw [hn]; simp [lgI]
      with_reducible refine Ex_cons (Ex_assignC (fun c e => hc _ c e) (Ev_bin (Ev_bin (Ev_bin (Ev_name (v := .int (lsum ps x : Int) t4) (by walk_at "m") (Ev_sub (Ev_glob (v := .bytes LOGB 392) (g_log _) (Ev_bin (Ev_attr (Ev_name (v := .ref a) (by walk_at "m") (Tr_getx (up _ e2) (up _ e3) (by rw [hd]; omega) (Ev_name (v := .int (x : Int) tx) (by walk_at "m") (Tn_xor fun t8 => Tr_log ?_ fun t9 => Tr_sub fun t10 => ?_)))))))))))))
      · exact Nat.xor_lt_two_pow (n := 8) hp1 hx
      with_reducible refine Ev_sum_gen (n := vs.length) (F := fun i y => ∃ t, y = .int ((lgI ps p.1).getD i 0) t) (fun i => (lgI ps p.1).getD i 0) hq (Ev_gen (ρf := [(Str.ofString "share", .ref a)]) hq (by with_unfolding_all exact hh) (by rw [hd]; omega) (it_list (Ev_name (v := .ref l) (by walk_at "m") ⟨rfl, rfl⟩) (up _ hm) hl) ?_ ?_) (fun i v h => h) (sum_fit (lgI_bd ps p.1) (by omega)) fun t11 => Tr_sub fun t12 => En_int (i := 255) fun t13 => Tr_mod (by decide) fun t14 => ?_
      · intro A' E' W' he L code j v hw hA' hdp hj hP
        obtain ⟨p2, a2, d2, t2, u2, f1, rfl, f2, f3⟩ := hv.val hP
        with_reducible refine Ev_sub (Ev_glob (v := .bytes LOGB 392) (g_log _) (Ev_bin (Ev_attr (Ev_name (v := .ref a) (by walk_at "m") (Tr_getx (up _ e2) (up _ e3) (by rw [hd] at hdp; omega) (Ev_attr (Ev_name (v := .ref a2) (by walk_at "m") (Tr_getx (up _ f2) (up _ f3) (by rw [hd] at hdp; omega) (Tn_xor fun t5 => Tr_log ?_ fun t6 => ?_)))))))))
        · exact Nat.xor_lt_two_pow (n := 8) hp1 (hp p2 (List.mem_of_getElem? f1))
        · refine ⟨t6, ?_⟩
          unfold lgI
          rw [List.getD_eq_getElem?_getD, List.getElem?_map, f1, Nat.xor_comm]; rfl
      · intro q hq'
        rw [List.mem_singleton.mp hq']; walk_at "m"
      rw [← hgl2, preSum_list, lgI_sum]
      have hbas : (((lsum ps x : Int) - (LOGN (p.1 ^^^ x) : Int) - (lsum ps p.1 : Int)).fmod ((255 : Nat) : Int)) = (basis ps x p.1 : Int) := by
        unfold basis
        rw [Int.toNat_of_nonneg (Int.fmod_nonneg_of_pos _ (by decide))]; rfl
      rw [hbas]
      have hfi := hfold i
      have hsame : p.2.size = ((ps.take i).foldl (accA ps x) (Array.replicate sz 0)).size := by rw [hfi]; exact hg.same p (List.mem_of_getElem? e1)
      generalize hres : (ps.take i).foldl (accA ps x) (Array.replicate sz 0) = res at m4 hsame hfi
      with_reducible refine Ex_cons (Ex_assign (Ev_bytes_gen (n := p.2.size) (F := fun i y => ∃ t k, (zipB (basis ps x p.1) p.2 res)[i]? = some k ∧ y = .int k t) (zipB (basis ps x p.1) p.2 res) hq (Ev_genT (P := fun i vals => ∃ x y u v, p.2[i]? = some x ∧ res[i]? = some y ∧ vals = #[.int (x.toNat : Int) u, .int (y.toNat : Int) v]) (ρf := [(Str.ofString "log_basis_eval", .int (basis ps x p.1 : Int) t14)]) hq (by with_unfolding_all exact hh) (by rw [hd]; omega) ?_ ?_ ?_ ?_) (zipB_len _ _ _ hsame) (fun i v _ h => h) zipB_range (by rw [hsame, hfi]; omega) fun t15 => Ex_nil ?_))
      · with_reducible refine it_zip (b1 := p.2) (b2 := res) (t1 := u) (t2 := t7) hq hsame (Ag_cons (Ev_attr (Ev_name (v := .ref a) (by walk_at "m") (Tr_getd (up _ e2) (up _ e3) (by rw [hd]; omega) (Ag_cons (Ev_name (v := .bytes res t7) (by walk_at "m") (Ag_nil ?_)))))))
        exact ⟨rfl, rfl⟩
      · rintro j vals ⟨y1, y2, u1, u2, _, _, rfl⟩; exact ⟨_, _, rfl⟩
      · intro A' E' W' he L code j va vb hw hA' hj hP
        obtain ⟨y1, y2, u1, u2, g1, g2, ge⟩ := hP
        have gea : va = .int (y1.toNat : Int) u1 ∧ vb = .int (y2.toNat : Int) u2 := by
          have := congrArg Array.toList ge
          simp only [List.cons.injEq, and_true] at this
          exact this
        obtain ⟨rfl, rfl⟩ := gea
        have hy1 : y1.toNat < 256 := y1.toNat_lt
        have hz : (zipB (basis ps x p.1) p.2 res)[j]? = some ((stepB (basis ps x p.1) y1.toNat y2.toNat : Nat) : Int) := by
          unfold zipB bl
          rw [List.getElem?_zipWith, List.getElem?_map, List.getElem?_map, Array.getElem?_toList, Array.getElem?_toList, g1, g2]; rfl
        with_reducible refine Ev_bin (Ev_name (v := .int (y2.toNat : Int) u2) (by walk_at "m") (Ev_if (Ts_cmp (Ev_name (v := .int (y1.toNat : Int) u1) (by walk_at "m") (En_int (i := 0) fun t16 => Tn_ne (Tr_bool ?_))))))
        by_cases h0 : y1.toNat = 0
        · rw [if_neg (by simp [h0])]
          refine En_int (i := 0) fun t17 => ?_
          refine Tn_xor fun t18 => ?_
          refine ⟨t18, _, hz, ?_⟩
          unfold stepB; rw [if_pos h0]
        · rw [if_pos (by simp [h0])]
          with_reducible refine Ev_sub (Ev_glob (v := .bytes EXPB 390) (g_exp _) (Ev_bin (Ev_bin (Ev_sub (Ev_glob (v := .bytes LOGB 392) (g_log _) (Ev_name (v := .int (y1.toNat : Int) u1) (by walk_at "m") (Tr_log hy1 fun t17 => Ev_name (v := .int (basis ps x p.1 : Int) t14) (by walk_at "m") (Tn_add fun t18 => En_int (i := 255) fun t19 => Tn_mod (by decide) fun t20 => Tr_exp ?_ fun t21 => Tn_xor fun t22 => ?_))))))))
          · exact Nat.mod_lt _ (by decide)
          · refine ⟨t22, _, hz, ?_⟩
            unfold stepB; rw [if_neg h0]
      · intro q hq'
        rw [List.mem_singleton.mp hq']; walk_at "m"
      refine ⟨_, Sb.refl _, by walk_at "m", by walk_at "m", by walk_at "m", rfl, t15, ?_⟩
      have ht : (ps.take (i + 1)).foldl (accA ps x) (Array.replicate sz 0) = byteArr (zipB (basis ps x p.1) p.2 res) := by
        rw [List.take_add_one, e1, List.foldl_append, hres]; rfl
      rw [ht]; walk_at "m"
    · rintro ρ o' ⟨_, _, _, _, t7, m4⟩
      with_reducible refine Ex_cons (Ex_ret (Ev_name (by walk_at "m") ⟨t7, ?_⟩))
      have : ps.take vs.length = ps := by rw [hn]; exact List.take_length ..
      show Value.bytes _ _ = _
      rw [this]
end Mine
set_option maxRecDepth 100000
set_option Elab.async false
set_option linter.unusedVariables false
namespace Mine
open PySem PySem.W PySem.Spec PyProof.Rows PySem.Calls PySem.W.KBw

local macro_rules | `(tactic| walk_at "m") => `(tactic| first
  | assumption
  | with_reducible exact List.mem_cons_self
  | with_reducible exact setL_here
  | (with_reducible refine setL_there' ?_ (by dsimp only; decide +kernel); walk_at "m")
  | (with_reducible refine List.mem_cons_of_mem _ ?_; walk_at "m"))

abbrev bmE : List Value := [.type "Exception", .type "BaseException", .type "object"]
theorem exc_obj {K : Frag} {h : Heap} {T : Addr} {bmB : List Value} {newId : String} (X : K.In h) (q : excIn K T bmB newId = true) :
    ∃ bm N nm q bs hdct sn sub ab col dd k0 k1 k2 k3 k5 mN, h.get? T = some (excClassObj nm q T N bs bm hdct sn sub ab col dd k0 k1 k2 k3 k5 newId) ∧ h.Ns N mN ∧ mN "__init__" = none ∧ OwnTail h bmB bm ∧ ∃ oN, K.lookup N = some oN := by
  unfold excIn at q
  split at q
  · rename_i dd cd sl ho
    split at q
    · rename_i C' bm k0 k1 k2 k3 n k5 hm hs
      simp only [Bool.and_eq_true, beq_iff_eq, Bool.not_eq_true'] at q
      obtain ⟨⟨⟨⟨⟨rfl, rfl⟩, hdel⟩, ht⟩, hok⟩, hni⟩ := q
      obtain ⟨nm, bs, mro, ns, qn, hd, sn, sub, ab, col, del⟩ := cd
      dsimp only at hm hdel hok hni
      subst hm hdel
      have hsl : sl = #[k0, k1, k2, k3, some (.builtin n), k5] := by
        obtain ⟨l⟩ := sl
        simp only at hs
        rw [hs]
      subst hsl
      exact ⟨bm, ns, nm, qn, bs, hd, sn, sub, ab, col, dd, k0, k1, k2, k3, k5, _, X _ _ ho, .of_isNs (isNs_of_in X hok), nsMap_none_of_in X hok hni, tail_of_in X ht, by
        unfold nsOkIn at hok
        split at hok
        · rename_i e; exact ⟨_, e⟩
        · cases hok⟩
    · cases q
  · cases q
theorem exc31 (w : World) : excIn (KK w) 31 bmE "Exception.__new__" = true := by kernel_rfl
theorem g_exc (w : World) : gvar w (Str.ofString "MnemonicError") = some (.ref 31) := by kernel_rfl

section
variable {C : Cx} {A : Around} {E : Value → Shared → Prop} {ρ : Loc} {obs : Led}
theorem Ex_raise {e₀ : Expr} {np cpos pos : Pos} {Q : Flow → Loc → Led → Prop} (hh : A.handled = none)
    (h : Ev C A E ρ obs e₀ fun v o => ∀ s₁ h' e, St C ρ o s₁ → Heap.MadeExcOf s₁.heap h' e (.ref 31) [v] → E (.ref e) { s₁ with heap := h' })
    (he : starEach [e₀] C.env = (false, eval e₀ C.env) :: starEach [] C.env := by with_unfolding_all rfl) (hplain : (backTo cpos (starEach [] C.env)).any (·.1) = false := by with_unfolding_all rfl)
    (hk : C.env.kindOf (Str.ofString "MnemonicError") = some .globalImplicit := by kernel_rfl!) : Ex C A E ρ obs (exec (.Raise (some (.Call (.Name (Str.ofString "MnemonicError") np) [e₀] [] cpos)) none pos) C.env) Q := fun s S => by
  obtain ⟨tl, N, nm, q, bs, hdct, sn, sub, ab, col, dd, k0, k1, k2, k3, k5, mN, hC, hN, hni, T, oN, hoN⟩ := exc_obj S.wd.k (exc31 C.W.w)
  have hT : ∀ (s2 : Shared), (KK C.W.w).In s2.heap → s2.heap.get? 31 = some (excClassObj nm q 31 N bs tl hdct sn sub ab col dd k0 k1 k2 k3 k5 "Exception.__new__") → OwnTail s2.heap bmE tl := fun s2 X2 e => by
    obtain ⟨tl', N', nm', q', bs', hdct', sn', sub', ab', col', dd', k0', k1', k2', k3', k5', mN', hC', hN', hni', T', _⟩ := exc_obj X2 (exc31 C.W.w)
    rw [e] at hC'
    injection hC' with hC'
    injection hC' with _ _ hC' _
    injection hC' with hC'
    injection hC' with _ _ a1 a2
    injection a1 with _ a1
    subst a1
    exact T'
  have hNs : ∀ (s2 : Shared), (KK C.W.w).In s2.heap → s2.heap.Ns N mN := fun s2 X2 => by
    obtain ⟨o, es, ep, ho, r⟩ := hN
    have e1 := S.wd.k _ _ hoN
    rw [ho] at e1
    exact ⟨o, es, ep, by rw [X2 _ _ hoN, ← e1], r⟩
  have hK31 : ∀ (s2 : Shared), (KK C.W.w).In s2.heap → s2.heap.get? 31 = some (excClassObj nm q 31 N bs tl hdct sn sub ab col dd k0 k1 k2 k3 k5 "Exception.__new__") := fun s2 X2 => by
    have e : ∃ o, (KK C.W.w).lookup 31 = some o := ⟨oK C.W.w 31, by kernel_rfl⟩
    obtain ⟨o, e⟩ := e
    have e1 := S.wd.k _ _ e
    rw [hC] at e1
    rw [X2 _ _ e, ← e1]
  refine wpAny_Raise_call_subT (C := 31) (nm := nm) (q := q) (N := N) (bs := bs) (bm := tl) (hdct := hdct) (sn := sn) (sub := sub) (ab := ab) (col := col) (dd := dd) (k0 := k0) (k1 := k1) (k2 := k2) (k3 := k3) (k5 := k5)
    PySem.F.excBase_Exception (mN := mN) (T.hasType PySem.F.excBase_Exception.hasBase) hh (by rw [he]; show (false || (backTo cpos (starEach [] C.env)).any (·.1)) = false; rw [hplain]; rfl) hni
    (wpAny_mono (Ev_glob (C := C) (A := A) (E := E) (ρ := ρ) (obs := obs) (Q := fun v o => v = .ref 31 ∧ o = obs) (g_exc _) ⟨rfl, rfl⟩ hk (by decide +kernel) s S) (fun f s1 ⟨o1, S1, e1, e2⟩ => ⟨e1, ?_⟩) fun _ _ x => x)
  subst e2
  have hr := args_cons (pos := cpos) (rest := []) (Q := fun vs s2 => ∃ v o, vs = [v] ∧ St C ρ o s2 ∧ ∀ s₁ h' e, St C ρ o s₁ → Heap.MadeExcOf s₁.heap h' e (.ref 31) [v] → E (.ref e) { s₁ with heap := h' })
    (wpAny_mono (h s1 S1) (fun v s2 ⟨o2, S2, q2⟩ => args_nil ⟨v, o2, rfl, S2, q2⟩) fun _ _ x => x) he
  rw [he] at hr ⊢
  refine Calls.evalArgs_plain (wpAny_mono hr (fun vs s2 ⟨v, o, e, S2, q2⟩ => ?_) fun _ _ x => x)
  subst e
  exact ⟨rfl, by rw [sizeLine_eq]; simp, hK31 _ S2.wd.k, hNs _ S2.wd.k, hT _ S2.wd.k (hK31 _ S2.wd.k), fun h' e hm => q2 s2 h' e S2 hm⟩
end

/-- what stands when an exception of the class has left a call -/
structure Fly (W : Wc) (outer : List Env) (s₀ : Shared) (e : Value) (s' : Shared) : Prop where
  fl : ∃ ea t B, e = .ref ea ∧ Heap.FlyingW B outer ea (.ref 31) (.ref t) s'.heap ∧ (∀ b o, b ≠ 150 → b ∉ outer.filterMap (·.frame) → s₀.heap.get? b = some o → B.get? b = some o) ∧
    (∀ ps, s₀.heap.get? 150 = some (X.tableObj ps) → ∃ more, B.get? 150 = some (X.tableObj (ps ++ more))) ∧ ∃ ps, B.IsCode 154 150 ps
  fr : ∀ b ∈ outer.filterMap (·.frame), ∀ o, s₀.heap.get? b = some o → (∀ vs, o.data ≠ .fields vs) → ∃ sl, s'.heap.get? b = some { o with slots := sl }
  gens : AllBare s'.gens
  os : s'.os = W.os

def OutOk (outer : List Env) (obs : Led) : Prop := ∀ env ∈ outer, env.scope.kind ≠ .module ∧ ∃ L o, env.frame = some L ∧ (L, o) ∈ obs ∧ ∀ vs, o.data ≠ .fields vs

theorem ff_build {B h : Heap} : ∀ {l : List Env}, (∀ env ∈ l, env.scope.kind ≠ .module ∧ ∃ L o, env.frame = some L ∧ B.get? L = none ∧ h.get? L = some o ∧ ∀ vs, o.data ≠ .fields vs) → h.FunFrames B l
  | [], _ => trivial
  | env :: r, hl => ⟨(hl env List.mem_cons_self).1, (hl env List.mem_cons_self).2, ff_build fun e he => hl e (List.mem_cons_of_mem _ he)⟩

theorem fly_out {W : Wc} {A : Around} {f : Addr} {ρ : Loc} {o obs : Led} {s₀ s₁ : Shared} {h' : Heap} {ea : Addr} {vs : List Value} {outer : List Env} (hq : W.gq = bareQ) (hA : A.frames = some outer)
    (S : St ⟨W, s₀.heap, envF W.w f s₀.heap.objs.size⟩ ρ o s₁) (hsub : ∀ p ∈ obs, p ∈ o) (hob : ∀ p ∈ obs, s₀.heap.get? p.1 = some p.2) (hout : OutOk outer obs) (M : Heap.MadeExcOf s₁.heap h' ea (.ref 31) vs) :
    wpAny (model PR W.w) (A.deeper (envF W.w f s₀.heap.objs.size)) (leaving (envF W.w f s₀.heap.objs.size) (.ref ea)) (fun _ s'' => Fly W outer s₀ (.ref ea) s'') (fun e' s'' => Fly W outer s₀ e' s'') { s₁ with heap := h' } := by
  have hfr : (envF W.w f s₀.heap.objs.size).frame = some s₀.heap.objs.size := rfl
  have hL : (envF W.w f s₀.heap.objs.size).locals = s₀.heap.objs.size := rfl
  obtain ⟨m, hm, _⟩ := S.fr
  obtain ⟨oL, es, ep, hoL, hdL, _⟩ := id hm
  have hmem : ∀ b, b ∈ outer.filterMap (·.frame) → ∃ ob, (b, ob) ∈ obs := fun b hb => by
    obtain ⟨env, he, hf⟩ := List.mem_filterMap.mp hb
    obtain ⟨_, L, ob, h1, h2, _⟩ := hout env he
    rw [hf] at h1
    cases h1
    exact ⟨ob, h2⟩
  have h203 : ∀ b, b ∈ (envF W.w f s₀.heap.objs.size :: outer).filterMap (·.frame) → Far b := fun b hb => by
    obtain ⟨env, he, hf⟩ := List.mem_filterMap.mp hb
    rcases List.mem_cons.mp he with rfl | he
    · rw [hfr] at hf
      cases hf
      exact far_of S.sc.hi
    · obtain ⟨ob, h⟩ := hmem b (List.mem_filterMap.mpr ⟨env, he, hf⟩)
      exact (S.ob _ (hsub _ h)).2.1
  have hnone : ∀ env ∈ (envF W.w f s₀.heap.objs.size :: outer), ∀ L, env.frame = some L → (hideAll s₁.heap ((envF W.w f s₀.heap.objs.size :: outer).filterMap (·.frame))).get? L = none := fun env he L hf => hideAll_none _ (List.mem_filterMap.mpr ⟨env, he, hf⟩)
  have hff : s₁.heap.FunFrames (hideAll s₁.heap ((envF W.w f s₀.heap.objs.size :: outer).filterMap (·.frame))) (envF W.w f s₀.heap.objs.size :: outer) := ff_build fun env he => by
    rcases List.mem_cons.mp he with rfl | he'
    · refine ⟨by rw [show (envF W.w f s₀.heap.objs.size).scope.kind = .function from S.sc.kind]; decide, _, oL, hfr, hnone _ he _ hfr, hoL, fun vs e => ?_⟩
      rw [hdL] at e; cases e
    · obtain ⟨k, L, ob, h1, h2, h3⟩ := hout env he'
      exact ⟨k, L, ob, h1, hnone _ he _ h1, (S.ob _ (hsub _ h2)).1, h3⟩
  refine wpAny_leaves_madeW (Around.frames_deeper hA) hfr (fun b o e => of_hideAll _ e) hff M fun h'' t x1 x2 x3 x4 => ⟨⟨ea, t, _, rfl, x1, fun b ob hb hn e => ?_, fun ps e => ?_, ?_⟩, fun b hb ob e hd => ?_, ?_, ?_⟩
  · refine hideAll_get _ (S.kp.keep b ob hb e) fun h => ?_
    obtain ⟨env, he, hf⟩ := List.mem_filterMap.mp h
    rcases List.mem_cons.mp he with rfl | he
    · rw [hfr] at hf
      cases hf
      exact absurd (Heap.lt_size e) (Nat.lt_irrefl _)
    · exact hn (List.mem_filterMap.mpr ⟨env, he, hf⟩)
  · obtain ⟨more, e⟩ := S.kp.tab ps e
    exact ⟨more, hideAll_get _ e (fun h => (h203 150 h).1 rfl)⟩
  · obtain ⟨ps, h⟩ := S.wd.code
    exact ⟨ps, IsCode_of h (fun o e => hideAll_get _ e (fun h => (h203 154 h).2 rfl)) (fun o e => hideAll_get _ e (fun h => (h203 150 h).1 rfl))⟩
  · obtain ⟨ob', h⟩ := hmem b hb
    have e1 := hob _ h
    rw [e] at e1
    have e2 := (S.ob _ (hsub _ h)).1
    rw [← Option.some.inj e1] at e2
    exact x4 b ob (M.keeps b ob e2) hd
  · have := S.wd.bare
    rw [show W.gq = bareQ from hq] at this
    exact this
  · exact S.wd.os.1

theorem c_interp_bad {W : Wc} {A : Around} {l x : Nat} {ol : Obj} {vs : List Value} {ps : List (Nat × Array UInt8)} {SH : Led} {tx : Tok} {outer : List Env} (hq : W.gq = bareQ) (hdq : W.dq = fun _ => True) (hh : A.handled = none) (hroom : A.depth + 2 < recursionLimit)
    (hl : LsO ol vs) (hv : Shs vs ps ((l, ol) :: SH)) (hlen : ps.length ≤ 100) (hsz : ∀ p ∈ ps, p.2.size ≤ 100) (hA : A.frames = some outer) (hout : OutOk outer ((l, ol) :: SH)) (hb : (ps.map (·.1)).Nodup → (dd (lsI ps)).length ≠ 1) :
    ClE W A (.ref 155) [.ref l, .int (x : Int) tx] ((l, ol) :: SH) (fun _ => False) (fun s₀ e s' => Fly W outer s₀ e s') := by
  refine ClE_of (EB := fun s₀ e s' => Ob s₀.heap ((l, ol) :: SH) ∧ ∃ ρ o s₁ h' ea v, e = .ref ea ∧ s' = { s₁ with heap := h' } ∧ (∀ p ∈ (l, ol) :: SH, p ∈ o) ∧ St ⟨W, s₀.heap, envF W.w 155 s₀.heap.objs.size⟩ ρ o s₁ ∧ Heap.MadeExcOf s₁.heap h' ea (.ref 31) [v])
    (binds := [("shares", .ref l), ("x", .int (x : Int) tx)]) (Nat.lt_of_succ_lt (Nat.lt_of_succ_lt hroom)) (fun s w ho hc => ?_) (fun s₀ e s' ⟨ho, ρ, o, s₁, h', ea, v, e1, e2, hsub, S, M⟩ => ?_)
  · have hm : (l, ol) ∈ (l, ol) :: SH := List.mem_cons_self
    have hn : vs.length = ps.length := hv.len
    have hd : (A.deeper (envF W.w 155 s.heap.objs.size)).depth = A.depth + 1 := rfl
    with_reducible refine Ex_cons (Ex_expr (Ev_str fun t0 => ⟨by with_unfolding_all rfl, ?_⟩))
    with_reducible refine Ex_cons (Ex_assign (Ev_set_gen (n := vs.length) (F := fun i y => ∃ t, y = .int ((xsI ps).getD i 0) t) (fun i => (xsI ps).getD i 0) hq (Ev_gen (ρf := []) hq (by with_unfolding_all exact hh) (by rw [hd]; omega) (it_list (Ev_name (v := .ref l) (by walk_at "m") ⟨rfl, rfl⟩) hm hl) ?_ (List.forall_mem_nil _)) (fun i v h => h) ?_ ?_))
    · intro A' E' W' he L code i v hw hA hdp hi hP
      obtain ⟨p, a, d, t, u, e1, rfl, e2, e3⟩ := hv.val hP
      with_reducible refine Ev_attr (Ev_name (v := .ref a) (by walk_at "m") (Tr_getx e2 e3 (by rw [hd] at hdp; omega) ?_))
      refine ⟨t, ?_⟩
      unfold xsI
      rw [List.getD_eq_getElem?_getD, List.getElem?_map, e1]; rfl
    · have : scanBound = 4096 := rfl
      omega
    intro sa so hsa hso
    have hxl : (xsI ps).length = vs.length := by rw [hn]; simp [xsI]
    have hll : (lsI ps).length = vs.length := by rw [hn]; simp [lsI]
    rw [← hxl, firstMet_list] at hso
    with_reducible refine Ex_cons (Ex_if (Ts_cmp (Ev_callB b_len (Ag_cons (Ev_name (v := .ref sa) (by walk_at "m") (Ag_nil (Tr_len_set (l := dd (xsI ps)) List.mem_cons_self hso fun t1 => Ev_callB b_len (Ag_cons (Ev_name (v := .ref l) (by walk_at "m") (Ag_nil (Tr_len (by walk_at "m") hl (by omega) fun t2 => Tn_ne (Tr_bool ?_))))))))))))
    by_cases hnd : (ps.map (·.1)).Nodup
    · have hxd : (dd (xsI ps)).length = ps.length := by rw [(dd_len_iff _).mpr (xsI_nodup.mpr hnd), hxl, hn]
      rw [hxd, hn, if_neg (by simp)]
      refine Ex_nil ?_
      with_reducible refine Ex_cons (Ex_assign (Ev_set_gen (n := vs.length) (F := fun i y => ∃ t, y = .int ((lsI ps).getD i 0) t) (fun i => (lsI ps).getD i 0) hq (Ev_gen (ρf := []) hq (by with_unfolding_all exact hh) (by rw [hd]; omega) (it_list (Ev_name (v := .ref l) (by walk_at "m") ⟨rfl, rfl⟩) (List.mem_cons_of_mem _ hm) hl) ?_ (List.forall_mem_nil _)) (fun i v h => h) ?_ ?_))
      · intro A' E' W' he L code i v hw hA hdp hi hP
        obtain ⟨p, a, d, t, u, e1, rfl, e2, e3⟩ := hv.val hP
        have hpsz := hsz p (List.mem_of_getElem? e1)
        with_reducible refine Ev_callB b_len (Ag_cons (Ev_attr (Ev_name (v := .ref a) (by walk_at "m") (Tr_getd (List.mem_cons_of_mem _ e2) (List.mem_cons_of_mem _ e3) (by rw [hd] at hdp; omega) (Ag_nil (Tr_len_bytes (by omega) fun t3 => ?_))))))
        refine ⟨t3, ?_⟩
        unfold lsI
        rw [List.getD_eq_getElem?_getD, List.getElem?_map, e1]; rfl
      · have : scanBound = 4096 := rfl
        omega
      intro sb sbo hsb hsbo
      rw [← hll, firstMet_list] at hsbo
      with_reducible refine Ex_cons (Ex_if (Ts_cmp (Ev_callB b_len (Ag_cons (Ev_name (v := .ref sb) (by walk_at "m") (Ag_nil (Tr_len_set (l := dd (lsI ps)) List.mem_cons_self hsbo fun t1 => En_int (i := 1) fun t2 => Tn_ne (Tr_bool ?_))))))))
      rw [if_pos (by simpa using hb hnd)]
      refine Ex_cons (Ex_raise hh (Ev_str fun t3 s₁ h' e S M => ⟨ho, _, _, s₁, h', e, _, rfl, rfl, fun p hp => List.mem_cons_of_mem _ (List.mem_cons_of_mem _ hp), S, M⟩))
    · rw [if_pos (by
        rw [hn]
        have : (dd (xsI ps)).length ≠ ps.length := fun e => hnd (xsI_nodup.mp ((dd_len_iff _).mp (by rw [e, hxl, hn])))
        simpa using this)]
      refine Ex_cons (Ex_raise hh (Ev_str fun t3 s₁ h' e S M => ⟨ho, _, _, s₁, h', e, _, rfl, rfl, fun p hp => List.mem_cons_of_mem _ hp, S, M⟩))
  · subst e1 e2
    exact fly_out hq hA S hsub (fun p hp => (ho.1 p hp).1) hout M
end Mine
set_option maxRecDepth 100000
set_option Elab.async false
set_option linter.unusedVariables false
namespace Mine
open PySem PySem.W PySem.Spec PyProof.Rows PySem.Calls PySem.W.KBw

local macro_rules | `(tactic| walk_at "m") => `(tactic| first
  | assumption
  | with_reducible exact List.mem_cons_self
  | with_reducible exact setL_here
  | (with_reducible refine setL_there' ?_ (by dsimp only; decide +kernel); walk_at "m")
  | (with_reducible refine List.mem_cons_of_mem _ ?_; walk_at "m"))

section
variable {C : Cx} {A : Around} {E : Value → Shared → Prop} {ρ : Loc} {obs : Led}
theorem all_true (n : Nat) : (List.range n).all (fun _ => true) = true := List.all_eq_true.mpr fun _ _ => rfl
theorem Tr_eq_same {a b : Addr} {oa ob : Obj} {vs : List Value} {Q : Value → Led → Prop} (h1 : (a, oa) ∈ obs) (h2 : (b, ob) ∈ obs) (l1 : LsO oa vs) (l2 : LsO ob vs) (hu : A.units < cLine) (h : Q (.bool true) obs) : Tr C A E ρ obs (compareOp .Eq (.ref a) (.ref b)) Q := fun s S =>
  SeqAt.eq_listAt (e := fun _ => true) (l1.isList (S.ob _ h1).1) (l2.isList (S.ob _ h2).1) rfl hu (fun j _ _ => SeqAt.EqAt.same _) (by rw [all_true]; exact ⟨obs, S, h⟩)
theorem Tr_ne_same {a b : Addr} {oa ob : Obj} {vs : List Value} {Q : Value → Led → Prop} (h1 : (a, oa) ∈ obs) (h2 : (b, ob) ∈ obs) (l1 : LsO oa vs) (l2 : LsO ob vs) (hu : A.units < cLine) (h : Q (.bool false) obs) : Tr C A E ρ obs (compareOp .NotEq (.ref a) (.ref b)) Q := fun s S =>
  SeqAt.RcNeAt.lists (e := fun _ => true) (l1.isList (S.ob _ h1).1) (l2.isList (S.ob _ h2).1) rfl hu (fun j _ _ => SeqAt.EqAt.same _) PR C.W.w E _ (by rw [all_true]; exact ⟨obs, S, h⟩)

theorem Tr_clE {f : Value} {vs : List Value} {P : Value → Prop} {X : Shared → Value → Shared → Prop} {Q : Value → Led → Prop} {obs' : Led} (hs : Sb obs' obs) (hc : ClE C.W A f vs obs' P X) (h : ∀ v, P v → Q v obs) (hx : ∀ s e s', St C ρ obs s → X s e s' → E e s') : Tr C A E ρ obs (call f vs) Q := fun s S => by
  obtain ⟨l, hl⟩ := hs
  refine wpAny_mono (hc s S.wd ⟨fun p hp => ?_, ?_⟩) (fun v _ ⟨w', k, z, p⟩ => ⟨obs, S.to w' k z, h v p⟩) fun e s' x => hx s e s' S x
  · have := S.ob p (hl.mem_iff.mp (List.mem_append_left _ hp))
    exact ⟨this.1, this.2.1⟩
  · have := (hl.map (·.1)).nodup_iff.mpr S.nd
    rw [List.map_append] at this
    exact (List.nodup_append.mp this).1
end

section
variable {W : Wc} {he : Heap} {env : Env} {A : Around} {ρ : Loc} {obs : Led}
theorem St.hide {s : Shared} {as : List Addr} (S : St ⟨W, he, env⟩ ρ obs s) : St ⟨W, hideAll he as, env⟩ ρ obs s := by
  have hz := hideAll_size as he
  refine ⟨⟨?_, ?_, fun e => ?_, S.sc.hl, S.sc.cl, S.sc.cp, S.sc.kind, S.sc.gl, S.sc.bi⟩, S.wd, ⟨fun b o hb e => S.kp.keep b o hb (of_hideAll _ e), fun ps e => S.kp.tab ps (of_hideAll _ e)⟩, S.fr, S.ob, S.nd, S.ce, ?_⟩
  · show 203 ≤ (hideAll he as).objs.size; rw [hz]; exact S.sc.hi
  · show W.hb.objs.size ≤ (hideAll he as).objs.size; rw [hz]; exact S.sc.hb
  · show (hideAll he as).objs.size ≤ env.locals; rw [hz]; exact S.sc.gx e
  · show (hideAll he as).objs.size ≤ s.heap.objs.size; rw [hz]; exact S.sz

/-- the frame behind an exception that has come up to it -/
theorem St_land {s₀ s' : Shared} {B : Heap} {LL : Addr} {oL o' : Obj} (S : St ⟨W, he, env⟩ ρ ((LL, oL) :: obs) s₀) (hq : W.gq = bareQ) (hdq : W.dq = fun _ => True) (hg : env.scope.names.lookup (Str.ofString ".0") = none)
    (hhid : he.get? LL = none) (hLL : W.hb.objs.size ≤ LL) (hB : B.StaysIn s'.heap) (hk : ∀ b o, b ≠ 150 → b ≠ env.locals → b ≠ LL → s₀.heap.get? b = some o → B.get? b = some o)
    (ht : ∀ ps, s₀.heap.get? 150 = some (X.tableObj ps) → ∃ more, B.get? 150 = some (X.tableObj (ps ++ more))) (hc : ∃ ps, B.IsCode 154 150 ps) (hL : ∀ o, s₀.heap.get? env.locals = some o → (∀ vs, o.data ≠ .fields vs) → ∃ sl, s'.heap.get? env.locals = some { o with slots := sl })
    (hLLo : s'.heap.get? LL = some o') (hgens : AllBare s'.gens) (hos : s'.os = W.os) : St ⟨W, he, env⟩ ρ ((LL, o') :: obs) s' := by
  obtain ⟨m, hm, hρ⟩ := S.fr
  have hLLob := S.ob (LL, oL) List.mem_cons_self
  have hm' : s'.heap.Ns env.locals m := by
    obtain ⟨o, es, ep, e, hd, r⟩ := hm
    obtain ⟨sl, e'⟩ := hL o e (fun vs q => by rw [hd] at q; cases q)
    exact ⟨_, es, ep, e', hd, r⟩
  have up : ∀ b o, b ≠ 150 → b ≠ env.locals → b ≠ LL → s₀.heap.get? b = some o → s'.heap.get? b = some o := fun b o h1 h2 h3 e => hB _ _ (hk b o h1 h2 h3 e)
  have hsz : he.objs.size ≤ s'.heap.objs.size := Nat.le_trans (S.sc.gx hg) (Nat.le_of_lt hm'.lt)
  have hlow : ∀ b, b < he.objs.size → b ≠ env.locals := fun b hb e => absurd (Nat.lt_of_lt_of_le hb (S.sc.gx hg)) (by rw [e]; exact Nat.lt_irrefl _)
  have hcell : ∀ y c v, env.cells.lookup y = some c → s₀.heap.IsCell c v → s'.heap.IsCell c v := fun y c v hc' ⟨o, e, d⟩ =>
    ⟨o, up _ _ (ne150 (S.sc.cl _ _ hc').2) (S.sc.cl _ _ hc').1 (Ne.symm (hLLob.2.2.2 y c hc')) e, d⟩
  have hn := S.nd
  rw [List.map_cons, List.nodup_cons] at hn
  refine ⟨S.sc, ⟨S.wd.bs, Nat.le_trans S.sc.hb hsz, ⟨fun b o hb e => ?_, fun ps e => ?_⟩, ?_, ?_, hos, by rw [show W.dq = _ from hdq]; trivial⟩, ⟨fun b o hb e => ?_, fun ps e => ?_⟩, ⟨m, hm', fun p hp => ⟨(hρ p hp).1, fun k => ?_⟩⟩, fun p hp => ?_, ?_, fun y c hc' => ?_, hsz⟩
  · have hlt := Heap.lt_size e
    exact up b o hb (hlow b (Nat.lt_of_lt_of_le hlt S.sc.hb)) (Nat.ne_of_lt (Nat.lt_of_lt_of_le hlt hLL)) (S.wd.kp.keep b o hb e)
  · obtain ⟨m1, e⟩ := S.wd.kp.tab ps e
    obtain ⟨m2, e⟩ := ht _ e
    exact ⟨m1 ++ m2, by rw [← Array.append_assoc]; exact hB _ _ e⟩
  · obtain ⟨ps, h⟩ := hc
    exact ⟨ps, IsCode_of h (fun o e => hB _ _ e) (fun o e => hB _ _ e)⟩
  · rw [show W.gq = _ from hq]; exact hgens
  · refine up b o hb (hlow b (Heap.lt_size e)) (fun h => ?_) (S.kp.keep b o hb e)
    rw [h] at e
    rw [show he.get? LL = none from hhid] at e; cases e
  · obtain ⟨m1, e⟩ := S.kp.tab ps e
    obtain ⟨m2, e⟩ := ht _ e
    exact ⟨m1 ++ m2, by rw [← Array.append_assoc]; exact hB _ _ e⟩
  · obtain ⟨c, hc', hv⟩ := (hρ p hp).2 k
    exact ⟨c, hc', hcell _ _ _ hc' hv⟩
  · rcases List.mem_cons.mp hp with rfl | hp
    · exact ⟨hLLo, hLLob.2⟩
    · obtain ⟨a, b, c, d⟩ := S.ob p (List.mem_cons_of_mem _ hp)
      refine ⟨up _ _ b.1 c (fun e => hn.1 (List.mem_map.mpr ⟨p, hp, e⟩)) a, b, c, d⟩
  · rw [List.map_cons]; exact S.nd
  · obtain ⟨v, hv⟩ := S.ce y c hc'
    exact ⟨v, hcell y c v hc' hv⟩
end

/-- a call behind which the frame LL may have other slots -/
def ClQ (W : Wc) (A : Around) (f : Value) (vs : List Value) (LL : Addr) (OB : Led) (P : Value → Prop) : Prop :=
  ∀ s oL, Wd W s → Ob s.heap ((LL, oL) :: OB) → (∀ vs, oL.data ≠ .fields vs) → wpAny (model PR W.w) A (call f vs) (fun v s' => Wd W s' ∧ Kp (hideAll s.heap [LL]) s'.heap ∧ s.heap.objs.size ≤ s'.heap.objs.size ∧ (∃ sl, s'.heap.get? LL = some { oL with slots := sl }) ∧ P v) Fls s

theorem Ex_try {C : Cx} {A : Around} {E : Value → Shared → Prop} {ρ : Loc} {obs : Led} {body : List Stmt} {h₀ : ExceptHandler} {hs : List ExceptHandler} {pos : Pos} {Q : Flow → Loc → Led → Prop} (EB : Value → Shared → Prop) (h1 : Ex C A EB ρ obs (execs body C.env) (fun _ _ _ => False))
    (h2 : ∀ e s₁, EB e s₁ → wpAny (model PR C.W.w) A (noteFrame e C.env) (fun _ s₂ => wpAny (model PR C.W.w) A (setFlight e none) (fun _ s₃ => wpAny (model PR C.W.w) A (handleBy e C.env (h₀ :: hs)) (fun f s' => ∃ ρ' o', St C ρ' o' s' ∧ Q f ρ' o') E s₃) E s₂) E s₁) :
    Ex C A E ρ obs (exec (.Try body (h₀ :: hs) [] [] pos) C.env) Q := fun s S =>
  wpAny_Try_except (wpAny_mono (h1 s S) (fun _ _ ⟨_, _, _, h⟩ => h.elim) h2)
theorem Sb.swap {p q : Addr × Obj} {r : Led} : Sb (q :: p :: r) (p :: q :: r) := ⟨[], by rw [List.append_nil]; exact List.Perm.swap _ _ _⟩
theorem Tr_clE' {C : Cx} {A : Around} {E : Value → Shared → Prop} {ρ : Loc} {obs : Led} {f : Value} {vs : List Value} {P : Value → Prop} {X : Shared → Value → Shared → Prop} {Q : Value → Led → Prop} {p : Addr × Obj} {rest : Led} (hs : Sb (p :: rest) obs)
    (hc : ∀ oF : Obj, (∀ vs, oF.data ≠ .fields vs) → ClE C.W A f vs (p :: (C.env.locals, oF) :: rest) P X) (h : ∀ v, P v → Q v obs) (hx : ∀ s e s', St C ρ obs s → X s e s' → E e s') : Tr C A E ρ obs (call f vs) Q := fun s S => by
  obtain ⟨l, hl⟩ := hs
  obtain ⟨m, ⟨oF, es, ep, eF, hd, _⟩, _⟩ := S.fr
  have hmem : ∀ q ∈ p :: rest, q ∈ obs := fun q hq => hl.mem_iff.mp (List.mem_append_left _ hq)
  have hnd : ((p :: rest).map (·.1)).Nodup := by
    have := (hl.map (·.1)).nodup_iff.mpr S.nd
    rw [List.map_append] at this
    exact (List.nodup_append.mp this).1
  refine wpAny_mono (hc oF (fun vs e => by rw [hd] at e; cases e) s S.wd ⟨fun q hq => ?_, ?_⟩) (fun v _ ⟨w', k, z, p⟩ => ⟨obs, S.to w' k z, h v p⟩) fun e s' x => hx s e s' S x
  · rcases List.mem_cons.mp hq with rfl | hq
    · have := S.ob _ (hmem _ List.mem_cons_self)
      exact ⟨this.1, this.2.1⟩
    · rcases List.mem_cons.mp hq with rfl | hq
      · exact ⟨eF, far_of S.sc.hl⟩
      · have := S.ob q (hmem _ (List.mem_cons_of_mem _ hq))
        exact ⟨this.1, this.2.1⟩
  · rw [List.map_cons, List.nodup_cons] at hnd
    rw [List.map_cons, List.map_cons, List.nodup_cons, List.nodup_cons]
    refine ⟨fun h => ?_, fun h => ?_, hnd.2⟩
    · rcases List.mem_cons.mp h with e | h
      · exact (S.ob p (hmem p List.mem_cons_self)).2.2.1 e
      · exact hnd.1 h
    · obtain ⟨q, hq, e⟩ := List.mem_map.mp h
      exact (S.ob q (hmem q (List.mem_cons_of_mem _ hq))).2.2.1 e

theorem b_list' : bootBuiltins (Str.ofString "list") = some (.type "list") := b_list
theorem g_itp (w : World) : gvar w (Str.ofString "_interpolate") = some (.ref 155) := by kernel_rfl

theorem c_refused {W : Wc} {A : Around} {l x LL : Nat} {ol : Obj} {vs : List Value} {ps : List (Nat × Array UInt8)} {SH : Led} {tx : Tok} {envL : Env} (hq : W.gq = bareQ) (hdq : W.dq = fun _ => True) (hh : A.handled = none) (hroom : A.depth + 3 < recursionLimit) (hu : A.units + 10 < cLine)
    (hl : LsO ol vs) (hv : Shs vs ps ((l, ol) :: SH)) (hlen : ps.length ≤ 100) (hsz : ∀ p ∈ ps, p.2.size ≤ 100) (hA : A.frames = some [envL]) (hk : envL.scope.kind ≠ .module) (hf : envL.frame = some LL) (hLL : W.hb.objs.size ≤ LL) (hb : (ps.map (·.1)).Nodup → (dd (lsI ps)).length ≠ 1) :
    ClQ W A (.ref 197) [.ref l, .int (x : Int) tx] LL ((l, ol) :: SH) (fun r => r = .bool true) := by
  intro s oL w ho hoL
  have hgood : fnGood W.w 197 = true := by kernel_rfl!
  obtain ⟨c, d, sl, hlk, hclo, hgl, hbi, hki, hco, hge, hci⟩ := fnGood_ hgood
  refine wpAny_call (call_peek (K := KK W.w) (binds := [("points", .ref l), ("x", .int (x : Int) tx)]) (body := _) w.k (by omega) (w.k _ _ hlk) rfl w.lim (codeRec_of w.k hci) (by with_unfolding_all rfl) (by intro S; kernel_rfl!) hclo (kindsX (by kernel_rfl!) _) (fun s₁ xc => ?_) hco hge hki)
  obtain ⟨S, hcells⟩ := St_enter hgood w ho (nodB_ (by kernel_rfl!)) (kindsX (by kernel_rfl!) _) xc
  have hhid : (hideAll s.heap [LL]).get? LL = none := hideAll_none _ List.mem_cons_self
  have key : ∀ (t : List Stmt), Ex ⟨W, hideAll s.heap [LL], envF W.w 197 s.heap.objs.size⟩ (A.deeper (envF W.w 197 s.heap.objs.size)) Fls [("points", .ref l), ("x", .int (x : Int) tx)] ((LL, oL) :: (l, ol) :: SH) (execs t (envF W.w 197 s.heap.objs.size)) (fun fl _ o => retv fl = .bool true ∧ ∃ sl, (LL, { oL with slots := sl }) ∈ o) →
      wpAny (model PR W.w) (A.deeper (envF W.w 197 s.heap.objs.size)) (execs t (envF W.w 197 s.heap.objs.size)) (fun f s' => Wd W s' ∧ Kp (hideAll s.heap [LL]) s'.heap ∧ s.heap.objs.size ≤ s'.heap.objs.size ∧ (∃ sl, s'.heap.get? LL = some { oL with slots := sl }) ∧ retv f = .bool true)
        (fun e s' => wpAny (model PR W.w) (A.deeper (envF W.w 197 s.heap.objs.size)) (leaving (envF W.w 197 s.heap.objs.size) e) (fun _ s'' => False) (fun e' s'' => False) s') s₁ := fun t body => by
    refine wpAny_mono (body s₁ S.hide) (fun fl s2 ⟨ρ2, o2, S2, q1, sl, q2⟩ => ?_) fun _ _ x => x.elim
    refine ⟨S2.wd, S2.kp, ?_, ⟨sl, (S2.ob _ q2).1⟩, q1⟩
    have := S2.sz
    rw [show (hideAll s.heap [LL]).objs.size = s.heap.objs.size from hideAll_size _ _] at this
    exact this
  refine key _ ?_
  have hfr : (envF W.w 197 s.heap.objs.size).frame = some s.heap.objs.size := rfl
  have hAf : (A.deeper (envF W.w 197 s.heap.objs.size)).frames = some [envF W.w 197 s.heap.objs.size, envL] := Around.frames_deeper hA
  have hd : (A.deeper (envF W.w 197 s.heap.objs.size)).depth = A.depth + 1 := rfl
  with_reducible refine Ex_cons (Ex_assign (Ev_callT b_list (Ag_cons (Ev_name (v := .ref l) (by walk_at "m") (Ag_nil (Tr_copy (by walk_at "m") hl (by rw [hv.len]; omega) fun ka kn hka => ?_))))))
  with_reducible refine Ex_sb (obs' := (LL, oL) :: (ka, lsO vs kn) :: (l, ol) :: SH) (fun _ h => h) Sb.swap ?_
  with_reducible refine Ex_cons (Ex_try (fun e s' => ∃ s₀, St ⟨W, hideAll s.heap [LL], envF W.w 197 s.heap.objs.size⟩ (setL (Str.ofString "kept") (Value.ref ka) [(Str.ofString "points", Value.ref l), (Str.ofString "x", Value.int (x : Int) tx)]) ((LL, oL) :: (ka, lsO vs kn) :: (l, ol) :: SH) s₀ ∧ Fly W [envF W.w 197 s.heap.objs.size, envL] s₀ e s') ?_ ?_)
  · with_reducible refine Ex_cons (Ex_expr (Ev_call (f := .ref 155) (by kernel_rfl!) (by kernel_rfl!) (Ag_cons (Ev_name (v := .ref l) (by walk_at "m") (Ag_cons (Ev_name (v := .int (x : Int) tx) (by walk_at "m") (Ag_nil ?_)))))))
    have hsb : Sb ((l, ol) :: (LL, oL) :: SH) ((LL, oL) :: (ka, lsO vs kn) :: (l, ol) :: SH) := ⟨[(ka, lsO vs kn)], (List.perm_append_singleton _ _).trans (((List.Perm.swap _ _ _).cons _).trans (List.Perm.swap _ _ _))⟩
    refine Tr_clE' (p := (l, ol)) (rest := (LL, oL) :: SH) (P := fun _ => False) (X := fun s₀ e s' => Fly W [envF W.w 197 s.heap.objs.size, envL] s₀ e s') hsb (fun oF hF => ?_) (fun _ h => h.elim) (fun s0 e s' S0 F => ⟨s0, S0, F⟩)
    refine c_interp_bad hq hdq hh (by rw [hd]; omega) hl (hv.mono fun p hp => ?_) hlen hsz hAf (fun env he => ?_) hb
    · rcases List.mem_cons.mp hp with rfl | hp
      · exact List.mem_cons_self
      · exact List.mem_cons_of_mem _ (List.mem_cons_of_mem _ (List.mem_cons_of_mem _ hp))
    · rcases List.mem_cons.mp he with rfl | he
      · exact ⟨by rw [show (envF W.w 197 s.heap.objs.size).scope.kind = .function from S.sc.kind]; decide, s.heap.objs.size, oF, rfl, List.mem_cons_of_mem _ List.mem_cons_self, hF⟩
      · rw [List.mem_singleton.mp he]
        exact ⟨hk, LL, oL, hf, List.mem_cons_of_mem _ (List.mem_cons_of_mem _ List.mem_cons_self), hoL⟩
  · rintro e s1 ⟨s0, S0, F⟩
    obtain ⟨ea, t, B, rfl, hfl, hkB, htab, hcode⟩ := F.fl
    have hfm : [envF W.w 197 s.heap.objs.size, envL].filterMap (·.frame) = [s.heap.objs.size, LL] := by
      simp only [List.filterMap_cons, hfr, hf, List.filterMap_nil]
    have land : ∀ h : Heap, B.StaysIn h → s1.heap.UpToSlots h → ∃ sl, St ⟨W, hideAll s.heap [LL], envF W.w 197 s.heap.objs.size⟩ (setL (Str.ofString "kept") (Value.ref ka) [(Str.ofString "points", Value.ref l), (Str.ofString "x", Value.int (x : Int) tx)]) ((LL, { oL with slots := sl }) :: (ka, lsO vs kn) :: (l, ol) :: SH) { s1 with heap := h } := fun h hB hup => by
      have eLL := (S0.ob _ List.mem_cons_self).1
      obtain ⟨sl1, e1⟩ := F.fr LL (by rw [hfm]; simp) oL eLL hoL
      obtain ⟨sl2, e2⟩ := hup LL _ e1 hoL
      refine ⟨sl2, St_land (s' := { s1 with heap := h }) S0 hq hdq (by kernel_rfl!) hhid hLL hB (fun b o h1 h2 h3 e => hkB b o h1 (by rw [hfm]; simp only [List.mem_cons, List.not_mem_nil, or_false, not_or]; exact ⟨h2, h3⟩) e) htab hcode (fun o e hd => ?_) e2 F.gens F.os⟩
      obtain ⟨sl3, e3⟩ := F.fr s.heap.objs.size (by rw [hfm]; simp) o e hd
      obtain ⟨sl4, e4⟩ := hup s.heap.objs.size _ e3 hd
      exact ⟨sl4, e4⟩
    refine wpAny_looks_onW hAf hfr hfl fun h₄ held sm₄ => wpAny_landsW held fun h₅ fl₅ sm₅ => ?_
    obtain ⟨sl5, S5⟩ := land h₅ fl₅.1 (sm₄.trans sm₅)
    obtain ⟨ob, hob, hobc⟩ := fl₅.there
    refine wpAny_handleBy_cons (codeAny_handlers_test ?_) (by intro q; cases q)
    refine wpAny_Name (loadName_glob (mb := W.mb) S5.sc.kind (by kernel_rfl!) (S5.sc.gl ▸ ns3 S5.wd.k) (g_exc W.w) ?_) (by decide +kernel)
    obtain ⟨tl, N, nm, q, bs, hdct, sn, sub, ab, col, dd', k0, k1, k2, k3, k5, mN, hC, hN, hni, T, _⟩ := exc_obj S5.wd.k (exc31 W.w)
    refine wpAny_excMatches_sub_self hC hob hobc (T.hasType PySem.F.excBase_Exception.hasBase) ?_
    refine codeAny_handlers_suite (lands_againW fl₅ fun h₆ fl₆ sm₆ => ?_)
    obtain ⟨sl6, S6⟩ := land h₆ fl₆.1 ((sm₄.trans sm₅).trans sm₆)
    have key2 : ∀ (t : List Stmt) (Q : Flow → Shared → Prop) (E : Value → Shared → Prop), Ex ⟨W, hideAll s.heap [LL], envF W.w 197 s.heap.objs.size⟩ ((A.deeper (envF W.w 197 s.heap.objs.size)).mark (some (.ref ea))) Fls (setL (Str.ofString "kept") (Value.ref ka) [(Str.ofString "points", Value.ref l), (Str.ofString "x", Value.int (x : Int) tx)]) ((LL, { oL with slots := sl6 }) :: (ka, lsO vs kn) :: (l, ol) :: SH) (execs t (envF W.w 197 s.heap.objs.size))
        (fun fl _ o => fl = .ret (.bool true) ∧ ∃ sl, (LL, { oL with slots := sl }) ∈ o) → (∀ s2 ρ2 o2, St ⟨W, hideAll s.heap [LL], envF W.w 197 s.heap.objs.size⟩ ρ2 o2 s2 → (∃ sl, (LL, { oL with slots := sl }) ∈ o2) → Q (.ret (.bool true)) s2) →
        wpAny (model PR W.w) ((A.deeper (envF W.w 197 s.heap.objs.size)).mark (some (.ref ea))) (execs t (envF W.w 197 s.heap.objs.size)) Q E { s1 with heap := h₆ } := fun t Q E suite hQ =>
      wpAny_mono (suite _ S6) (fun fl s2 ⟨ρ2, o2, S2, e1, e2⟩ => by subst e1; exact hQ s2 ρ2 o2 S2 e2) fun _ _ x => x.elim
    refine key2 _ _ _ ?_ (fun s2 ρ2 o2 S2 e2 => ⟨ρ2, o2, S2, rfl, e2⟩)
    with_reducible refine Ex_cons (Ex_ret (Ev_cmp (Ev_name (v := .ref l) (by walk_at "m") (Ev_name (v := .ref ka) (by walk_at "m") (Tr_eq_same (vs := vs) (by walk_at "m") (by walk_at "m") hl (lsO_is _ _) ?_ ?_)))))
    · show (A.units + 3) < cLine
      omega
    · exact ⟨rfl, sl6, List.mem_cons_self⟩
end Mine
set_option maxRecDepth 100000
set_option Elab.async false
set_option linter.unusedVariables false
namespace Mine
open PySem PySem.W PySem.Spec PyProof.Rows PySem.Calls PySem.W.KBw

local macro_rules | `(tactic| walk_at "m") => `(tactic| first
  | assumption
  | with_reducible exact List.mem_cons_self
  | with_reducible exact setL_here
  | (with_reducible refine setL_there' ?_ (by dsimp only; decide +kernel); walk_at "m")
  | (with_reducible refine List.mem_cons_of_mem _ ?_; walk_at "m"))

/-- the octets of n, the highest first -/
def beA (k n : Nat) : Array UInt8 := (KTBy.low (n : Int) k).reverse.toArray
/-- and back -/
def ofBE (b : Array UInt8) : Nat := b.toList.foldl (fun (acc : Nat) (b : UInt8) => acc * 256 + b.toNat) 0
theorem beA_size (k n : Nat) : (beA k n).size = k := by unfold beA; rw [List.size_toArray, List.length_reverse, KTBy.low_length]

section
variable {prog : Program} {w : World} {M : Model} {A : Around} {E : Value → Shared → Prop} {s : Shared} {x k : Nat} {t u v : Tok}
open KTBy PySem.Builtin.Int
theorem to_bigL {Q : Value → Shared → Prop} (hk : k ≤ 100) (h1 : x < 256 ^ k) (h : ∀ t', Q (.bytes (beA k x) t') { s with toks := s.toks + 1 }) :
    wpAny (model prog w) A (call (.builtin "int.to_bytes") [.int (x : Int) t, .int (k : Int) u, .str (PySem.Str.ofString "big") v]) Q E s := by
  refine wpAny_call_entry slot (typeIs_int s x t) entry ?_ (args _ _ _)
  have h1' : (x : Int) < 256 ^ k := by rw [p256]; omega
  have hb := bits_le (k := k) (x := (x : Int)) rfl (by omega) h1'
  show wpAny _ _ (Builtin.Int.intOfSelf (.int x t) >>= fun y => _) _ _ s
  refine wpAny_bind (wpAny_of_eq (a := (x : Int)) rfl ?_)
  show wpAny _ _ (Builtin.Int.intBindNamed "to_bytes" ["length", "byteorder", "signed"] 0 2 [.int (k : Int) u, .str (PySem.Str.ofString "big") v] [] >>= fun l => _) _ _ s
  refine wpAny_bind (wpAny_of_eq (a := [some (.int (k : Int) u), some (.str (PySem.Str.ofString "big") v), none]) (by kernel_rfl) ?_)
  show wpAny _ _ (Builtin.Int.intIndex "int.to_bytes" (.int (k : Int) u) >>= fun n => _) _ _ s
  refine wpAny_bind (wpAny_of_eq (a := (k : Int)) rfl ?_)
  refine if_not (by show (decide ((k : Int) < -(2 ^ 63 : Int)) || decide ((k : Int) ≥ 2 ^ 63)) = false; rw [decide_eq_false (show ¬ ((k : Int) < -(2 ^ 63 : Int)) by omega), decide_eq_false (show ¬ ((k : Int) ≥ 2 ^ 63) by omega)]; rfl) ?_
  refine wpAny_bind (wpAny_of_eq (a := PySem.Str.ofString "big") (by kernel_rfl) ?_)
  refine wpAny_bind (wpAny_of_eq (a := false) rfl ?_)
  refine wpAny_bind (wpAny_of_eq (a := false) (by kernel_rfl) ?_)
  refine wpAny_ite_false (decide_eq_false (show ¬ ((k : Int) < 0) by omega)) ?_
  refine wpAny_ite_false (decide_eq_false (show ¬ ((k : Int) > 2 ^ 63 - 1 - 33) by omega)) ?_
  refine wpAny_ite_false (decide_eq_false (show ¬ ((k : Int) > (sizeLine : Int)) by rw [sizeLine_eq]; omega)) ?_
  refine if_not (by show (decide ((x : Int) < 0) && !false) = false; rw [decide_eq_false (show ¬ (x : Int) < 0 by omega)]; rfl) ?_
  refine if_not (by show (_ && decide ((intBits (x : Int) : Int) > 8 * (k : Int))) = false; rw [decide_eq_false (show ¬ ((intBits (x : Int) : Int) > 8 * (k : Int)) by omega), Bool.and_false]) ?_
  exact wpAny_bind (wpAny_mkBytes (wpAny_pure ⟨_, rfl, h _⟩) (by show (List.reverse (low (x : Int) (Int.toNat (k : Int)))).length ≤ sizeLine; rw [List.length_reverse, low_length, Int.toNat_natCast, sizeLine_eq]; omega))
end

section
variable {prog : Program} {w : World} {M : Model} {A : Around} {E : Value → Shared → Prop} {s : Shared}
open KFB
theorem grownL {n : Nat} {Q : Value → Shared → Prop} (hn : n < 2 ^ 1000) (h : Q (.int (n : Int) s.toks) { s with toks := s.toks + 1 }) : wpAny M A (mkIntGrown (n : Int)) Q E s := by
  unfold mkIntGrown
  have hl : ¬ ((n : Int).natAbs.log2 ≥ bitsLine) := by
    rw [Int.natAbs_natCast]
    have hb : bitsLine = 134217728 := by first | rfl | decide
    by_cases hz : n = 0
    · subst hz
      rw [hb]
      decide
    · have h1 := (Nat.log2_lt hz).mpr hn
      omega
  rw [if_neg hl]
  exact wpAny_mkInt h
theorem tree_bigL {b : Array UInt8} {t u : Tok} {P : Fin → Shared → Prop} (hl : b.size ≤ 100) (h : P (.done (.ret (.int (ofBE b : Int) s.toks))) { s with toks := s.toks + 1 }) :
    wpAny M A (Builtin.«int.from_bytes» ⟨[.type "int", .bytes b t, .str (PySem.Str.ofString "big") u], []⟩) P E s := by
  have hn : b.toList.foldl (fun (acc : Nat) (b : UInt8) => acc * 256 + b.toNat) 0 < 2 ^ 1000 := by
    have h1 := fold_lt b.toList 0
    rw [Nat.zero_add, Nat.one_mul, Array.length_toList] at h1
    have h2 : 256 ^ b.size ≤ 256 ^ 100 := Nat.pow_le_pow_right (by decide) hl
    have h3 : 256 ^ 100 ≤ 2 ^ 1000 := by decide +kernel
    exact Nat.lt_of_lt_of_le h1 (Nat.le_trans h2 h3)
  unfold Builtin.«int.from_bytes»
  refine wpAny_bind (wpAny_of_eq (a := true) type_int ?_)
  refine if_not rfl ?_
  refine wpAny_bind (wpAny_of_eq (a := true) F.conv_sub_int ?_)
  refine if_not rfl ?_
  refine wpAny_bind (wpAny_of_eq (a := [some (.bytes b t), some (.str (PySem.Str.ofString "big") u), none]) (by kernel_rfl) ?_)
  refine wpAny_bind (wpAny_of_eq (a := PySem.Str.ofString "big") (by kernel_rfl) ?_)
  refine wpAny_bind (wpAny_of_eq (a := false) rfl ?_)
  refine wpAny_bind (wpAny_of_eq (a := false) (by kernel_rfl) ?_)
  refine wpAny_bind (wpAny_of_eq (a := b) rfl ?_)
  show wpAny _ _ (mkIntGrown (b.toList.foldl (fun (acc : Int) (b : UInt8) => acc * 256 + (b.toNat : Int)) ((0 : Nat) : Int)) >>= fun v => _) _ _ _
  rw [foldI_eq]
  refine wpAny_bind (grownL hn ?_)
  refine if_so (by decide +kernel) ?_
  exact wpAny_bind (wpAny_pure (wpAny_pure h))
end

section
variable {C : Cx} {A : Around} {E : Value → Shared → Prop} {ρ : Loc} {obs : Led}
/-- n.to_bytes(k, 'big') -/
theorem Ev_tobytes {o : Expr} {apos pos : Pos} {e : Expr} {r : List Expr} {x k : Nat} {Q : Value → Led → Prop} (hk : k ≤ 100) (h1 : x < 256 ^ k)
    (ho : Ev C A E ρ obs o fun v o1 => ∃ t, v = .int (x : Int) t ∧ Ag C A E ρ o1 pos (e :: r) fun vs o2 => ∃ u v, vs = [.int (k : Int) u, .str (PySem.Str.ofString "big") v] ∧ ∀ t, Q (.bytes (beA k x) t) o2)
    (he : starEach (e :: r) C.env = (false, eval e C.env) :: starEach r C.env := by with_unfolding_all rfl)
    (hp : (backTo pos (starEach r C.env)).any (·.1) = false := by with_unfolding_all rfl)
    (hc : eval (.Call (.Attribute o (PySem.Str.ofString "to_bytes") apos) (e :: r) [] pos) C.env = (do
      let ov ← eval o C.env
      standAt apos.atName
      let (f, first) ← holding [ov] (getMethod ov (PySem.Str.ofString "to_bytes") (do return (← importBound o C.env).getD true))
      callWith pos f first (backTo pos (starEach (e :: r) C.env)) (backToKw pos (keywordEach [] C.env))) := by with_unfolding_all rfl) : Ev C A E ρ obs (.Call (.Attribute o (PySem.Str.ofString "to_bytes") apos) (e :: r) [] pos) Q := fun s S => by
  refine methodCall_KW (pl := (do return (← importBound o C.env).getD true)) (wpAny_mono (ho s S) (fun v s1 ⟨o1, S1, t, ev, ha⟩ => ?_) fun _ _ x => x) hc
  subst ev
  refine KTBy.method ?_
  refine callWith_method1 (wpAny_mono (ha _ S1) (fun vs s2 ⟨o2, S2, u, v, e, q⟩ => ?_) fun _ _ x => x) he hp
  subst e
  exact to_bigL hk h1 fun t' => ⟨o2, S2.tok _, q t'⟩
/-- int.from_bytes(b, 'big') -/
theorem Ev_frombytes {o : Expr} {apos pos : Pos} {e : Expr} {r : List Expr} {Q : Value → Led → Prop}
    (ho : Ev C A E ρ obs o fun v o1 => v = .type "int" ∧ ∀ x, Ag C A E ρ ((x, KFB.bound) :: o1) pos (e :: r) fun vs o2 => ∃ b u v, vs = [.bytes b u, .str (PySem.Str.ofString "big") v] ∧ b.size ≤ 100 ∧ (x, KFB.bound) ∈ o2 ∧ ∀ t, Q (.int (ofBE b : Int) t) o2)
    (he : starEach (e :: r) C.env = (false, eval e C.env) :: starEach r C.env := by with_unfolding_all rfl)
    (hp : (backTo pos (starEach r C.env)).any (·.1) = false := by with_unfolding_all rfl)
    (hc : eval (.Call (.Attribute o (PySem.Str.ofString "from_bytes") apos) (e :: r) [] pos) C.env = (do
      let ov ← eval o C.env
      standAt apos.atName
      let (f, first) ← holding [ov] (getMethod ov (PySem.Str.ofString "from_bytes") (do return (← importBound o C.env).getD true))
      callWith pos f first (backTo pos (starEach (e :: r) C.env)) (backToKw pos (keywordEach [] C.env))) := by with_unfolding_all rfl) : Ev C A E ρ obs (.Call (.Attribute o (PySem.Str.ofString "from_bytes") apos) (e :: r) [] pos) Q := fun s S => by
  refine methodCall_KW (pl := (do return (← importBound o C.env).getD true)) (wpAny_mono (ho s S) (fun v s1 ⟨o1, S1, ev, ha⟩ => ?_) fun _ _ x => x) hc
  subst ev
  have F : Fr ({} : Heap) mainGlobals s1.heap (gvar C.W.w) := ⟨ns3 S1.wd.k, fun b o e => by simp [Heap.get?] at e, Nat.zero_le _⟩
  have N : News ({} : Heap) mainGlobals s1.heap [] := fun p hp => nomatch hp
  have hst : opaqueClassAbove (.type "int") = pure none := by unfold opaqueClassAbove; dsimp only; rw [show Manifest.isStub "int" = false by decide +kernel]; rfl
  have ht : typeOf (.type "int") = pure (.type "type") := by first | rfl | kernel_rfl
  have X : Frag.In [] s1.heap := fun _ _ e => nomatch e
  have L0 : Looks (model PR C.W.w) s1.heap (typeOf (.type "int")) (.type "type") := Looks.of_pure ht
  have hg : findIn [] (.type "type") "__getattribute__" = some (some (.builtin "type.__getattribute__")) := type_tga
  have e : findCls [] (.type "int") (.type "type") (PySem.Str.ofString "from_bytes") = some (.get (.builtin "classmethod_descriptor.__get__") (.builtin "int.from_bytes") .none (.type "int")) := by kernel_rfl
  unfold getMethod specialOf
  refine wpAny_bind (wpAny_bind (L0.here ((looks_findIn X hg).here ?_)))
  dsimp only
  rw [if_pos canon_tga]
  refine wpAny_bind (wpAny_mono (Q := fun v s' => v = .ref s1.heap.objs.size ∧ s' = { s1 with heap := s1.heap.push KFB.bound, toks := s1.toks + 1 }) (E := E) ?_ (fun v s' ⟨e1, e2⟩ => wpAny_pure ?_) fun _ _ z => z)
  · have LO : Looks (model PR C.W.w) s1.heap (opaqueClassAbove (.type "int")) none := Looks.of_pure hst
    refine cls_open X LO L0 hg (looks_hook X (r := none) (by rfl)) (by show subIn [] _ _ = _; rfl) e ?_
    show wpAny _ _ (holding [.builtin "int.from_bytes"] (call (.builtin "classmethod_descriptor.__get__") [.builtin "int.from_bytes", .none, .type "int"]) >>= fun v => ret v) _ _ _
    exact wpAny_bind (wpAny_holding (wpAny_call_entry KFB.slot_get KFB.type_fb KFB.entry_get (KFB.run_get ⟨_, rfl, wpAny_pure (wpAny_pure ⟨rfl, rfl⟩)⟩) (KFB.args_get _ _ _)))
  · subst e1 e2
    have S2 : St C ρ ((s1.heap.objs.size, KFB.bound) :: o1) { s1 with heap := s1.heap.push KFB.bound, toks := s1.toks + 1 } := (S1.push KFB.bound rfl).tok _
    dsimp only
    have hh := ha s1.heap.objs.size _ S2
    rw [he] at hh
    show wpAny _ _ (callWith pos (.ref s1.heap.objs.size) [] (backTo pos (starEach (_ :: _) C.env)) []) _ _ _
    rw [he]
    refine KFB.callWith_fields (by show (false || (backTo pos (starEach r C.env)).any (·.1)) = false; rw [hp]; rfl) ?_
    refine evalArgs_plain ?_
    refine wpAny_mono hh (fun vs s2 ⟨o2, S2, b, u, v, e, hsz, hm, q⟩ => ⟨(S2.ob _ hm).1, ?_⟩) fun _ _ x => x
    subst e
    exact KFB.call_of (S2.ob _ hm).1 (fun z => tree_bigL hsz z) ⟨o2, S2.tok _, q _⟩
end

theorem isi_meta_bytes' : typeOf (.type "bytes") = pure (.type "type") := by first | rfl | kernel_rfl
section
variable {C : Cx} {A : Around} {E : Value → Shared → Prop} {ρ : Loc} {obs : Led}
theorem Tr_isi_bytes {b : Array UInt8} {t : Tok} {Q : Value → Led → Prop} (h : Q (.bool true) obs) : Tr C A E ρ obs (call (.builtin "isinstance") [.bytes b t, .type "bytes"]) Q := fun s S =>
  call_isinstance (isinstance_true (Tx := "bytes") isi_meta_bytes' F.sub_bytes_bytes) ⟨typeIs_bytes s b t, ⟨obs, S, h⟩⟩
theorem Tr_eq_bytes {b c : Array UInt8} {t u : Tok} {Q : Value → Led → Prop} (h : Q (.bool (b.toList == c.toList)) obs) : Tr C A E ρ obs (compareOp .Eq (.bytes b t) (.bytes c u)) Q := fun s S =>
  PySem.W.eq_bytes ⟨obs, S, h⟩
theorem b_isi : bootBuiltins (Str.ofString "isinstance") = some (.builtin "isinstance") := by decide +kernel
theorem b_bytes' : bootBuiltins (Str.ofString "bytes") = some (.type "bytes") := by decide +kernel
end
theorem c_same {W : Wc} {A : Around} {E : Value → Shared → Prop} {b c : Array UInt8} {t u : Tok} {obs : Led} (hroom : A.depth < recursionLimit) : Cl W A E (.ref 190) [.bytes b t, .bytes c u] obs (fun r => r = .bool (b.toList == c.toList)) := by
  refine Cl_of (binds := [("told", .bytes b t), ("due", .bytes c u)]) hroom (fun he L hc => ?_)
  with_reducible refine Ex_cons (Ex_ret (Ev_and (Ev_callB b_isi (Ag_cons (Ev_name (v := .bytes b t) (by walk_at "m") (Ag_cons (Ev_bi b_bytes' (Ag_nil (Tr_isi_bytes (Tr_bool ?_))))))))))
  show if true = true then _ else _
  rw [if_pos rfl]
  with_reducible refine Ev_cmp (Ev_name (v := .bytes b t) (by walk_at "m") (Ev_name (v := .bytes c u) (by walk_at "m") (Tr_eq_bytes ?_)))
  rfl
end Mine
set_option maxRecDepth 100000
set_option Elab.async false
set_option linter.unusedVariables false
namespace Mine
open PySem PySem.W PySem.Spec PyProof.Rows PySem.Calls PySem.W.KBw

noncomputable def clsGood (w : World) : Bool := match (KK w).lookup 145 with
  | some ⟨_, _, .cls cd, sl⟩ => !cd.hasDel && (sl.toList[4]?).join == some .none && cd.mro == [.ref 145, .type "tuple", .type "object"] && cd.bases == [.type "tuple"]
  | _ => false
theorem clsGood_ (w : World) : clsGood w = true := by kernel_rfl
theorem bestTuple : Builtin.Slots.bestBase [.type "tuple"] = pure (.type "tuple") := by kernel_rfl
structure RsC (M : Model) (h : Heap) : Prop where
  obj : ∃ oc od cd sl, h.get? 145 = some ⟨oc, od, .cls cd, sl⟩ ∧ cd.hasDel = false ∧ cd.mro.isEmpty = false
  mro : Looks M h (mroOf (.ref 145)) [.ref 145, .type "tuple", .type "object"]
  made : Looks M h (Bind.madeBy (.ref 145)) none
  base : Looks M h (Bind.staticBase (.ref 145)) (.type "tuple")
  sub : Looks M h (isSubtype (.ref 145) (.type "tuple")) true
  self : Looks M h (isSubtype (.ref 145) (.ref 145)) true
  top : Looks M h (isSubtype (.ref 145) (.type "object")) true
  typ : Looks M h (isInstance (.ref 145) (.type "type")) true
  isT : Looks M h (isType (.ref 145)) true
  call : Looks M h (specialOf (.ref 145) "__call__") (some (.builtin "type.__call__"))
  init : Looks M h (typeLookup (.ref 145) "__init__") (some (.builtin "object.__init__"))
theorem rsC {w : World} {M : Model} {h : Heap} (X : (KK w).In h) : RsC M h := by
  have e := clsGood_ w
  unfold clsGood at e
  split at e
  · rename_i oc od cd sl ho
    simp only [Bool.and_eq_true, Bool.not_eq_true', beq_iff_eq] at e
    obtain ⟨⟨⟨e1, e2⟩, e3⟩, e4⟩ := e
    have hc : clsIn (KK w) 145 = some cd := by unfold clsIn; rw [ho]
    have hm : Looks M h (mroOf (.ref 145)) cd.mro := (looks_clsIn X hc).andThen .now
    have made : Looks M h (Bind.madeBy (.ref 145)) none := by
      intro A Q E s k q
      unfold Bind.madeBy
      refine wpAny_bind (hm A _ E s k ?_)
      rw [e3, List.forIn_cons]
      refine wpAny_bind (wpAny_bind (wpAny_bind (wpAny_bind (wpAny_loadPart (k _ _ (X _ _ ho)) (wpAny_pure ?_)))))
      dsimp only
      rw [← Array.getElem?_toList, e2]
      exact wpAny_pure (wpAny_pure (wpAny_pure q))
    have cdL : Looks M h (classData 145) cd := looks_clsIn X hc
    refine ⟨⟨oc, od, cd, sl, X _ _ ho, e1, by rw [e3]; rfl⟩, e3 ▸ hm, made, ?_, looks_mroIn X (by kernel_rfl), looks_mroIn X (by kernel_rfl), looks_mroIn X (by kernel_rfl), looks_instIn X (by kernel_rfl), ?_, looks_specialIn X (by kernel_rfl), looks_findIn X (by kernel_rfl)⟩
    · intro A Q E s k q
      unfold Bind.staticBase
      refine wpAny_bind (hm A _ E s k ?_)
      rw [e3, List.forIn_cons]
      refine wpAny_bind (wpAny_bind (wpAny_bind (made A _ E s k ?_)))
      refine wp_if_neg (by decide) ?_
      dsimp only
      refine wpAny_bind (cdL A _ E s k ?_)
      rw [e4, bestTuple]
      refine wpAny_bind (wpAny_pure (wpAny_pure ?_))
      dsimp only
      rw [List.forIn_cons]
      refine wpAny_bind (wpAny_bind (wpAny_of_eq F.called_tuple.made ?_))
      exact wpAny_pure (wpAny_pure (wpAny_pure q))
    · unfold isType
      exact (Looks.ld (X _ _ ho)).andThen .now
  · cases e
end Mine
namespace Mine
open PySem PySem.W PySem.Spec PyProof.Rows PySem.Calls PySem.W.KBw
theorem tn_kind : builtinKind "tuple.__new__" = some .builtinFn := by kernel_rfl
theorem tn_split : splitId "tuple.__new__" = some ("tuple", "__new__") := by kernel_rfl
theorem tn_args (a b : Value) : argsOk "tuple.__new__" ⟨[a, b], []⟩ := by unfold argsOk; kernel_rfl
theorem tnew {prog : Program} {w : World} {A : Around} {E : Value → Shared → Prop} {s : Shared} {tp : Addr} {o : Obj} {n : Nat} {x b : Value} {Q : Value → Shared → Prop} (X : (KK w).In s.heap) (ho : s.heap.get? tp = some o) (hc : o.cls = .type "tuple") (hd : o.data = .seq #[x, b] n)
    (hQ : ∀ h' : Heap, (∀ c o', s.heap.get? c = some o' → h'.get? c = some o') → Q (.ref (h'.objs.size + 1)) { s with heap := (h'.push dO).push (rsO x b h'.objs.size) }) :
    wpAny (model prog w) A (call (.builtin "tuple.__new__") [.ref 145, .ref tp]) Q E s := by
  have Y := rsC (M := model prog w) X
  obtain ⟨⟨oc, od, cd, sl, hC, e1, e4⟩, mro, made, base, sub, self, top, typ, isT, call, init⟩ := Y
  refine wpAny_call (codeAny_call_builtin_code (Code.quiet_builtin _ (by decide +kernel)) ?_)
  obtain ⟨hh, g, d, t, os⟩ := s
  dsimp only at X ho hC mro made base sub self top typ isT call init hQ
  have mt : Looks (model prog w) hh (Bind.madeBy (.type "tuple")) (some "tuple.__new__") := Looks.of_pure F.called_tuple.made
  simp only [checkBuiltinCall, tn_kind, tn_split]
  repeat (first | simp only [bne_self_eq_false, Bool.false_eq_true, if_false] | lk)
  refine codeAny_builtin F.entry_tuple_new ?_
  have here : Looks (model prog w) hh (Bind.madeHere "tuple.__new__" (.ref 145)) () := base.andThen (mt.andThen (Looks.of_pure (by simp only [Option.map_some, bne_self_eq_false, Bool.false_eq_true, if_false])))
  unfold Builtin.«tuple.__new__»
  have hbeq : (some (Value.builtin "object.__init__") == some (Value.builtin "object.__init__")) = true := by decide +kernel
  have hnt : (Value.ref 145 == Value.type "tuple") = false := by decide +kernel
  dsimp only
  generalize hcol : collect (.ref tp) = col
  repeat (first | simp only [Bool.false_eq_true, if_false, hbeq, hnt] | lk)
  subst hcol
  refine wpAny_collect_seq tp (.inr rfl) ho hc hd (fun h' hk => ?_) (by show 2 ≤ sizeLine; rw [sizeLine_eq]; decide)
  have hC' := hk _ _ hC
  refine wpAny_bind (wpAny_pure ?_)
  show wpAny _ _ (alloc dO >>= _) _ _ _
  refine wpAny_bind (wpAny_alloc (wpAny_bind ?_))
  unfold newObj
  dsimp only
  refine wp_if_neg (by show ¬ (2 > sizeLine); rw [sizeLine_eq]; decide) ?_
  unfold newObjAsIs classHasDel
  refine wpAny_bind (wpAny_alloc (wpAny_bind (wpAny_bind (wpAny_load (Heap.get?_push_of_some _ (Heap.get?_push_of_some _ hC')) (wpAny_pure ?_)))))
  rw [e1]
  refine wpAny_pure (wpAny_pure ?_)
  show Q _ _
  rw [Heap.size_push]
  exact hQ h' hk
end Mine
set_option maxRecDepth 100000
set_option Elab.async false
set_option linter.unusedVariables false
namespace Mine
open PySem PySem.W PySem.Spec PyProof.Rows PySem.Calls PySem.W.KBw

local macro_rules | `(tactic| walk_at "m") => `(tactic| first
  | assumption
  | with_reducible exact List.mem_cons_self
  | with_reducible exact setL_here
  | (with_reducible refine setL_there' ?_ (by dsimp only; decide +kernel); walk_at "m")
  | (with_reducible refine List.mem_cons_of_mem _ ?_; walk_at "m"))

def tpO (vs : List Value) : Obj := { cls := .type "tuple", data := .seq vs.toArray }
theorem tpO_is (vs : List Value) : TpO (tpO vs) vs := ⟨rfl, _, rfl⟩
def lsO' (vs : List Value) : Obj := { cls := .type "list", data := .seq vs.toArray }

section
variable {C : Cx} {A : Around} {E : Value → Shared → Prop} {ρ : Loc} {obs : Led}
theorem Ev_tuple {elts : List Expr} {k : Nat} {pos : Pos} {Q : Value → Led → Prop} (h : Ag C A E ρ obs pos elts fun vs o => vs.length ≤ 2 ^ 20 ∧ ∀ a, C.he.objs.size ≤ a → Q (.ref a) ((a, tpO vs) :: o)) : Ev C A E ρ obs (.Tuple elts k pos) Q := fun s S =>
  Tuple_ (wpAny_mono (h s S) (fun vs s1 ⟨o, S1, hz, q⟩ => wpAny_newObj_type ⟨_, S1.push _ rfl, q _ S1.size⟩ (by show vs.toArray.size ≤ sizeLine; rw [List.size_toArray, sizeLine_eq]; omega)) fun _ _ x => x)
theorem Ev_list {elts : List Expr} {pos : Pos} {Q : Value → Led → Prop} (h : Ag C A E ρ obs pos elts fun vs o => vs.length ≤ 2 ^ 20 ∧ ∀ a, C.he.objs.size ≤ a → Q (.ref a) ((a, lsO' vs) :: o)) : Ev C A E ρ obs (.List elts pos) Q := fun s S =>
  List_ (wpAny_mono (h s S) (fun vs s1 ⟨o, S1, hz, q⟩ => wpAny_newObj_type ⟨_, S1.push _ rfl, q _ S1.size⟩ (by show vs.toArray.size ≤ sizeLine; rw [List.size_toArray, sizeLine_eq]; omega)) fun _ _ x => x)

theorem St.keepH {s : Shared} {h' : Heap} (S : St C ρ obs s) (k : ∀ b o, s.heap.get? b = some o → h'.get? b = some o) (hz : C.he.objs.size ≤ h'.objs.size) : St C ρ obs { s with heap := h' } := by
  obtain ⟨m, hm, hρ⟩ := S.fr
  have kp : Kp s.heap h' := .of_keep k
  refine ⟨S.sc, ?_, S.kp.trans kp, ⟨m, Ns_kp hm kp (ne150 S.sc.hl), fun p hp => ⟨(hρ p hp).1, fun hk => ?_⟩⟩, fun p hp => ?_, S.nd, fun y c hc => let ⟨v, h⟩ := S.ce y c hc; ⟨v, IsCell_kp h kp (S.sc.cl _ _ hc).2⟩, hz⟩
  · refine ⟨S.wd.bs, Nat.le_trans S.sc.hb hz, S.wd.kp.trans kp, ?_, ?_, S.wd.os⟩
    · obtain ⟨ps, h⟩ := S.wd.code
      exact ⟨ps, h.keeps k⟩
    · obtain ⟨ps, h⟩ := S.wd.code
      obtain ⟨op, e⟩ := IsCode_at h
      show C.W.gq s.gens (h'.get? 150)
      rw [k _ _ e, ← e]; exact S.wd.bare
  · obtain ⟨c, hc, hv⟩ := (hρ p hp).2 hk
    exact ⟨c, hc, IsCell_kp hv kp (S.sc.cl _ _ hc).2⟩
  · obtain ⟨a, b, r⟩ := S.ob p hp
    exact ⟨k _ _ a, b, r⟩

theorem Tr_tnew {tp : Addr} {x b : Value} {Q : Value → Led → Prop} (hm : (tp, tpO [x, b]) ∈ obs) (hge : C.he.objs.size ≤ tp) (h : ∀ a d, C.he.objs.size ≤ a → C.he.objs.size ≤ d → Q (.ref a) ((a, rsO x b d) :: (d, dO) :: obs)) :
    Tr C A E ρ obs (call (.builtin "tuple.__new__") [.ref 145, .ref tp]) Q := fun s S =>
  tnew S.wd.k (S.ob _ hm).1 rfl rfl fun h' hk => by
    have hz : C.he.objs.size ≤ h'.objs.size := Nat.le_trans hge (Nat.le_of_lt (Heap.lt_size (hk _ _ (S.ob _ hm).1)))
    have S1 := (S.keepH hk hz).push dO rfl
    have S2 := S1.push (rsO x b h'.objs.size) rfl
    have e : (h'.push dO).objs.size = h'.objs.size + 1 := Heap.size_push _ _
    refine ⟨(h'.objs.size + 1, rsO x b h'.objs.size) :: (h'.objs.size, dO) :: obs, ?_, h _ _ (Nat.le_succ_of_le hz) hz⟩
    rw [← e]
    exact S2
end

theorem c_new {W : Wc} {A : Around} {E : Value → Shared → Prop} {x b : Value} {s : Shared} (hroom : A.depth < recursionLimit) (w : Wd W s) :
    wpAny (model PR W.w) A (call (.ref 95) [.ref 145, x, b]) (fun v s' => Wd W s' ∧ Kp s.heap s'.heap ∧ s.heap.objs.size ≤ s'.heap.objs.size ∧ ∃ a d, v = .ref a ∧ s.heap.objs.size ≤ a ∧ s.heap.objs.size ≤ d ∧ Ob s'.heap [(a, rsO x b d), (d, dO)]) E s := by
  have hgood : fnGood W.w 95 = true := by kernel_rfl!
  obtain ⟨c, d, sl, hlk, hclo, hgl, hbi, hki, hco, hge, hci⟩ := fnGood_ hgood
  refine wpAny_call (call_peek (K := KK W.w) (binds := [("_cls", .ref 145), ("x", x), ("data", b)]) (body := _) w.k hroom (w.k _ _ hlk) rfl w.lim (codeRec_of w.k hci) (by with_unfolding_all rfl) (by intro S; kernel_rfl!) hclo (kindsX (by kernel_rfl!) _) (fun s₁ xc => ?_) hco hge hki)
  obtain ⟨S, hcells⟩ := St_enter hgood w (obs := []) ⟨fun p hp => (nomatch hp), List.nodup_nil⟩ (nodB_ (by kernel_rfl!)) (kindsX (by kernel_rfl!) _) xc
  have key : ∀ (t : List Stmt), Ex ⟨W, s.heap, envF W.w 95 s.heap.objs.size⟩ (A.deeper (envF W.w 95 s.heap.objs.size)) Fls [("_cls", .ref 145), ("x", x), ("data", b)] [] (execs t (envF W.w 95 s.heap.objs.size)) (fun fl _ o => ∃ a d r, retv fl = .ref a ∧ s.heap.objs.size ≤ a ∧ s.heap.objs.size ≤ d ∧ o = (a, rsO x b d) :: (d, dO) :: r) →
      wpAny (model PR W.w) (A.deeper (envF W.w 95 s.heap.objs.size)) (execs t (envF W.w 95 s.heap.objs.size)) (fun f s' => Wd W s' ∧ Kp s.heap s'.heap ∧ s.heap.objs.size ≤ s'.heap.objs.size ∧ ∃ a d, retv f = .ref a ∧ s.heap.objs.size ≤ a ∧ s.heap.objs.size ≤ d ∧ Ob s'.heap [(a, rsO x b d), (d, dO)])
        (fun e s' => wpAny (model PR W.w) (A.deeper (envF W.w 95 s.heap.objs.size)) (leaving (envF W.w 95 s.heap.objs.size) e) (fun _ s'' => E e s'') (fun e' s'' => E e' s'') s') s₁ := fun t body => by
    refine wpAny_mono (body s₁ S) (fun fl s2 ⟨ρ2, o2, S2, a, d, r, q1, q2, q3, q4⟩ => ?_) fun _ _ x => x.elim
    subst q4
    refine ⟨S2.wd, S2.kp, S2.sz, a, d, q1, q2, q3, fun p hp => ?_, ?_⟩
    · have := S2.ob p (by rcases List.mem_cons.mp hp with rfl | hp; exact List.mem_cons_self; rw [List.mem_singleton.mp hp]; exact List.mem_cons_of_mem _ List.mem_cons_self)
      exact ⟨this.1, this.2.1⟩
    · have := S2.nd
      rw [List.map_cons, List.map_cons, List.nodup_cons, List.nodup_cons] at this
      exact List.nodup_cons.mpr ⟨fun h => this.1 (by have h := List.mem_singleton.mp h; rw [show (a, rsO x b d).1 = (d, dO).1 from h]; exact List.mem_cons_self), List.nodup_cons.mpr ⟨fun h => (nomatch h), List.nodup_nil⟩⟩
  refine key _ ?_
  with_reducible refine Ex_cons (Ex_expr (Ev_str fun t0 => ⟨by with_unfolding_all rfl, ?_⟩))
  with_reducible refine Ex_cons (Ex_ret (Ev_callM (T := "tuple") (id := "tuple.__new__") (Ev_bi b_tuple ⟨rfl, ?_⟩)))
  with_reducible refine Ag_cons (Ev_name (v := .ref 145) (by walk_at "m") (Ag_cons (Ev_tuple (Ag_cons (Ev_name (v := x) (by walk_at "m") (Ag_cons (Ev_name (v := b) (by walk_at "m") (Ag_nil ?_))))))))
  refine ⟨by show 2 ≤ _; decide, fun tp htp => ?_⟩
  refine Ag_nil (Tr_tnew List.mem_cons_self htp fun a d ha hd => ?_)
  exact ⟨a, d, _, rfl, ha, hd, rfl⟩
end Mine
set_option maxRecDepth 100000
set_option Elab.async false
set_option linter.unusedVariables false
namespace Mine
open PySem PySem.W PySem.Spec PyProof.Rows PySem.Calls PySem.W.KBw

theorem ga_new {w : World} {A : Around} {E : Value → Shared → Prop} {s : Shared} {Q : Value → Shared → Prop} (X : (KK w).In s.heap) (h : Q (.ref 95) { s with toks := s.toks + 1 }) :
    wpAny (model PR w) A (getAttr (.ref 145) "__new__") Q E s :=
  cls_bind X (mc := .type "type") (by kernel_rfl) (by kernel_rfl : findCls (KK w) (.ref 145) (.type "type") "__new__" = some (.get (.builtin "staticmethod.__get__") (.ref 146) .none (.ref 145)))
    (wpAny_call (sm_get (s := { s with toks := s.toks + 1 }) (f := .ref 95) (rest := []) X (by kernel_rfl) (handed_on rfl h)))
theorem oi_args3 (a x b : Value) : argsOk "object.__init__" ⟨[a, x, b], []⟩ := by unfold argsOk; kernel_rfl

theorem c_mk {W : Wc} {A : Around} {E : Value → Shared → Prop} {x b : Value} {s : Shared} (hroom : A.depth + 1 < recursionLimit) (w : Wd W s) :
    wpAny (model PR W.w) A (call (.ref 145) [x, b]) (fun v s' => Wd W s' ∧ Kp s.heap s'.heap ∧ s.heap.objs.size ≤ s'.heap.objs.size ∧ ∃ a d, v = .ref a ∧ s.heap.objs.size ≤ a ∧ s.heap.objs.size ≤ d ∧ Ob s'.heap [(a, rsO x b d), (d, dO)]) E s := by
  obtain ⟨⟨oc, od, cd, sl, hC, e1, e4⟩, mro, made, base, sub, self, top, typ, isT, call, init⟩ := rsC (M := model PR W.w) w.k
  refine wpAny_call (codeAny_of_tree ?_)
  show wpAny _ _ (callAny (.ref 145) _) _ _ _
  refine nd_load hC ?_
  show wpAny _ _ (callAny.viaDunder (.ref 145) _) _ _ _
  unfold callAny.viaDunder
  refine wpAny_bind (call.here ?_)
  dsimp only
  rw [tc_bind]
  refine wpAny_bind (wpAny_pure (wpAny_bind (wpAny_pure ?_)))
  refine wpAny_pure (a := Fin.again (.call (.builtin "type.__call__") ⟨.ref 145 :: [x, b], []⟩)) (And.intro rfl ?_)
  refine codeAny_call_builtin_at (Code.quiet_builtin _ (by decide +kernel)) entry_typeCall (check_slot tc_kind tc_split typ (tc_args _ _ _) ?_)
  unfold Builtin.«type.__call__»
  dsimp only
  have hnt : (Value.ref 145 == Value.type "type") = false := by decide +kernel
  refine bm_if_false hnt ?_
  refine wpAny_bind (mro.here ?_)
  refine bm_if_false rfl ?_
  refine wpAny_bind (made.here ?_)
  dsimp only
  refine wpAny_bind (ga_new w.k ?_)
  refine wpAny_bind (wpAny_holding (wpAny_mono (c_new (E := Fls) (by with_unfolding_all exact hroom) (w.tok (s.toks + 1))) (fun v s1 ⟨w1, k1, z1, a, d, ev, ha, hd, ob⟩ => ?_) fun _ _ x => x.elim))
  subst ev
  have ea := (ob.1 _ List.mem_cons_self).1
  dsimp only at ea
  obtain ⟨_, mro1, made1, base1, sub1, self1, top1, typ1, isT1, call1, init1⟩ := rsC (M := model PR W.w) w1.k
  have t1 : Looks (model PR W.w) s1.heap (typeOf (.ref a)) (.ref 145) := (Looks.ld ea).andThen .now
  have i1 : Looks (model PR W.w) s1.heap (isInstance (.ref a) (.ref 145)) true := t1.andThen self1
  have i2 : Looks (model PR W.w) s1.heap (isInstance (.ref a) (.type "object")) true := t1.andThen top1
  have sp : Looks (model PR W.w) s1.heap (specialOf (.ref a) "__init__") (some (.builtin "object.__init__")) := t1.andThen init1
  refine wpAny_bind (i1.here ?_)
  refine bm_if_false rfl ?_
  have fin : ∀ A' : Around, wpAny (model PR W.w) A' (PySem.call (.builtin "object.__init__") [.ref a, x, b] []) (fun v s' => v = .none ∧ s' = s1) Fls s1 := fun A' => by
    refine wpAny_call ?_
    refine codeAny_call_builtin oi_plain entry_oi (@check_slot (model PR W.w) _ _ _ "object.__init__" "object" "__init__" (.ref a) [x, b] [] _ oi_kind oi_split i2 (oi_args3 (.ref a) x b) ?_)
    unfold Builtin.«object.__init__»
    dsimp only
    refine bm_if_true rfl ?_
    refine wpAny_bind (t1.here ?_)
    refine wpAny_bind (init1.here ?_)
    dsimp only
    refine wpAny_bind (made1.here ?_)
    refine bm_if_false (by decide +kernel) ?_
    refine bm_if_false (by decide +kernel) ?_
    exact wpAny_pure ⟨rfl, rfl⟩
  refine wpAny_bind (wpAny_holding ?_)
  unfold callSpecial?
  refine wpAny_bind (sp.here ?_)
  dsimp only
  refine wpAny_holding ?_
  rw [oi_bind]
  refine wpAny_bind (wpAny_pure ?_)
  refine wpAny_bind (wpAny_mono (fin _) (fun v s2 ⟨e1, e2⟩ => ?_) fun _ _ x => x.elim)
  subst e1 e2
  refine wpAny_pure ?_
  dsimp only
  refine bm_if_false rfl ?_
  exact wpAny_pure ⟨w1, k1, z1, a, d, rfl, ha, hd, ob⟩
section
variable {C : Cx} {A : Around} {E : Value → Shared → Prop} {ρ : Loc} {obs : Led}
theorem Tr_mk {x b : Value} {Q : Value → Led → Prop} (hroom : A.depth + 1 < recursionLimit) (h : ∀ a d, C.he.objs.size ≤ a → C.he.objs.size ≤ d → Q (.ref a) ((a, rsO x b d) :: (d, dO) :: obs)) : Tr C A E ρ obs (call (.ref 145) [x, b]) Q := fun s S =>
  wpAny_mono (c_mk hroom S.wd) (fun v s1 ⟨w1, k1, z1, a, d, ev, ha, hd, ob⟩ => by
    subst ev
    have S1 := S.to w1 k1 z1
    have ea := ob.1 _ List.mem_cons_self
    have ed := ob.1 _ (List.mem_cons_of_mem _ List.mem_cons_self)
    have hne := ob.2
    rw [List.map_cons, List.nodup_cons] at hne
    have hda : d ≠ a := fun e => hne.1 (by rw [← e]; exact List.mem_cons_self)
    have od := S.old hd
    have oa := S.old ha
    have S2 := S1.add (p := (d, dO)) ed.1 od
    have S3 := S2.add (p := (a, rsO x b d)) ea.1 ⟨oa.1, oa.2.1, oa.2.2.1, fun p hp => by
      rcases List.mem_cons.mp hp with rfl | hp
      · exact hda
      · exact oa.2.2.2 p hp⟩
    exact ⟨_, S3, h a d oa.1 od.1⟩) fun _ _ x => x
end
end Mine
set_option maxRecDepth 100000
set_option Elab.async false
set_option linter.unusedVariables false
namespace Mine
open PySem PySem.W PySem.Spec PyProof.Rows PySem.Calls PySem.W.KBw

def NsOb (o : Obj) (m : Str → Option Value) : Prop := ∃ es ep, o.data = .dict es ep ∧ StrKeys es ∧ ∀ x, nsFind es x = m x
theorem NsOb.at_ {h : Heap} {a : Addr} {o : Obj} {m : Str → Option Value} (e : h.get? a = some o) (x : NsOb o m) : h.Ns a m := let ⟨es, ep, r⟩ := x; ⟨o, es, ep, e, r⟩
theorem Ns_ob {h : Heap} {a : Addr} {m : Str → Option Value} (x : h.Ns a m) : ∃ o, h.get? a = some o ∧ NsOb o m := let ⟨o, es, ep, e, r⟩ := x; ⟨o, e, es, ep, r⟩

section
variable {C : Cx} {A : Around} {E : Value → Shared → Prop} {ρ ρc : Loc} {obs : Led}

/-- what a comprehension's own frame needs -/
structure CpOk (C : Cx) (scope : Scope) (cl : List (Str × Addr)) (x : Str) (ρ ρc : Loc) : Prop where
  kind : scope.kind = .function
  dot : ((relabel scope C.env).names.lookup (Str.ofString ".0")).isSome = true
  hx : (relabel scope C.env).names.lookup x = some .local
  sub : ∀ y c, cl.lookup y = some c → C.env.cells.lookup y = some c
  loc : ∀ p ∈ ρc, p ∈ ρ ∧ C.env.kindOf p.1 ≠ some .local ∧ (relabel scope C.env).names.lookup p.1 ≠ some .local ∧ cl.lookup p.1 = C.env.cells.lookup p.1

abbrev cpC (C : Cx) (scope : Scope) (cl : List (Str × Addr)) (he : Heap) (Cn : Addr) : Cx := ⟨C.W, he, compEnvC scope cl Cn C.env⟩

theorem St.inner {scope : Scope} {cl : List (Str × Addr)} {x : Str} {v : Value} {s : Shared} {Cn : Addr} {oC : Obj} {m : Str → Option Value} {obs' : Led} (K : CpOk C scope cl x ρ ρc) (S : St C ρ ((Cn, oC) :: obs) s) (hn : NsOb oC m) (hm : m x = some v)
    (hs : obs'.Sublist obs) (hC : C.he.objs.size ≤ Cn) : St (cpC C scope cl s.heap Cn) ((x, v) :: ρc) obs' s := by
  obtain ⟨e1, e2, e3, e4⟩ := S.ob _ List.mem_cons_self
  have hnd := S.nd
  rw [List.map_cons, List.nodup_cons] at hnd
  obtain ⟨mo, hmo, hρ⟩ := S.fr
  refine ⟨⟨S.wd.big, S.wd.lt, fun h => ?_, Nat.le_trans S.sc.hi hC, fun y c hc => ?_, fun y z c h1 h2 => S.sc.cp y z c (K.sub _ _ h1) (K.sub _ _ h2), K.kind, S.sc.gl, S.sc.bi⟩, S.wd, .refl _, ⟨m, hn.at_ e1, fun p hp => ?_⟩, fun p hp => ?_, ?_, fun y c hc => S.ce y c (K.sub _ _ hc), Nat.le_refl _⟩
  · have := K.dot
    have h' : (relabel scope C.env).names.lookup (Str.ofString ".0") = none := h
    rw [h'] at this; cases this
  · exact ⟨fun e => e4 y c (K.sub _ _ hc) e.symm, (S.sc.cl _ _ (K.sub _ _ hc)).2⟩
  · rcases List.mem_cons.mp hp with rfl | hp
    · exact ⟨fun _ => hm, fun h => absurd K.hx h⟩
    · obtain ⟨a, b, c, d⟩ := K.loc p hp
      refine ⟨fun h => absurd h c, fun _ => ?_⟩
      obtain ⟨cc, hcc, hv⟩ := (hρ p a).2 b
      exact ⟨cc, d.trans hcc, hv⟩
  · obtain ⟨a, b, c, d⟩ := S.ob p (List.mem_cons_of_mem _ (hs.subset hp))
    refine ⟨a, b, fun e => hnd.1 (List.mem_map.mpr ⟨p, hs.subset hp, e⟩), fun y c hc => d y c (K.sub _ _ hc)⟩
  · exact (hs.map _).nodup hnd.2

theorem St.adds {s s' : Shared} {P : Led} (S : St C ρ P s) (S' : St C ρ P s') : ∀ (ex : Led), (∀ p ∈ ex, s'.heap.get? p.1 = some p.2 ∧ s.heap.objs.size ≤ p.1) → (ex.map (·.1)).Nodup → St C ρ (ex ++ P) s'
  | [], _, _ => S'
  | p :: ex, h, hn => by
    rw [List.map_cons, List.nodup_cons] at hn
    have ih := St.adds S S' ex (fun q hq => h q (List.mem_cons_of_mem _ hq)) hn.2
    obtain ⟨a, b⟩ := h p List.mem_cons_self
    have f := S.old b
    refine ih.add a ⟨f.1, f.2.1, f.2.2.1, fun q hq e => ?_⟩
    rcases List.mem_append.mp hq with hq | hq
    · exact hn.1 (List.mem_map.mpr ⟨q, hq, e⟩)
    · exact f.2.2.2 q hq e

theorem comp_block {elt iter : Expr} {x : Str} {px : Pos} {scope : Scope} {cl : List (Str × Addr)} {pos : Pos} {I : Addr} {ib : Obj} {itP : Nat → Obj → Prop} {n : Nat} {val : Nat → Value → Prop} {need : Led} {s₂ : Shared} {RR : Value → Addr → Result → Shared → Prop}
    (R : Nat → List Value → Led → Prop) (hK : CpOk C scope cl x ρ ρc) (hcell : ∀ y ∈ scope.names, y.2 ≠ .cell) (N : Nx C A I itP n val need) (hneed : ∀ p ∈ need, p ∈ obs) (hib : itP 0 ib) (hnl : n ≤ 2 ^ 20) (h0 : R 0 [] [])
    (hself : ∀ (A' : Around) i ib s Q E, itP i ib → s.heap.get? I = some ib → Q (.ref I) s → wpAny (model PR C.W.w) A' (pyIter (.ref I)) Q E s)
    (helt : ∀ i v he Cn, i < n → val i v → C.he.objs.size ≤ he.objs.size → Ev (cpC C scope cl he Cn) A Fls ((x, v) :: ρc) obs elt (fun y o' => ∃ ex', Sb ex' o' ∧ (∀ p ∈ ex', he.objs.size ≤ p.1) ∧ ∀ ys ex, ys.length = i → R i ys ex → R (i + 1) (ys ++ [y]) (ex' ++ ex)))
    (S : St C ρ ((I, ib) :: obs) s₂)
    (hRR : ∀ Cn oC m D oD ys ex s', St C ρ ((Cn, oC) :: (D, oD) :: (ex ++ obs)) s' → NsOb oC m → LsO oD ys → C.he.objs.size ≤ Cn → C.he.objs.size ≤ D → ys.length = n → R n ys ex → RR (.ref D) Cn (.ok .next) s') :
    wpAny (model PR C.W.w) A (newList []) (fun acc s₃ => wpAny (model PR C.W.w) A (newFunctionEnv scope C.env.globals cl [] C.env.qual none .none (some C.env)) (fun cenv s₄ =>
      codeAny (model PR C.W.w) A (.compStart (.ListComp elt [⟨.Name x px, iter, [], 0⟩] scope pos) 0 (.ref I) acc { cenv with scope := relabel scope C.env }) (RR acc cenv.locals) s₄) E s₃) E s₂ := by
  have hD0 := S.size
  refine wpAny_newObj_type (wpAny_newFunctionEnv hcell (by intro y hy; simp at hy) (fun h₁ hns₁ hsb₁ => ?_) hK.kind)
  have S3 := S.push { cls := .type "list", data := .seq ([] : List Value).toArray } rfl
  have S4 := S3.push { cls := .type "dict", data := .dict #[] } rfl
  have hC0 := S3.size
  generalize hCn : (s₂.heap.push { cls := .type "list", data := .seq ([] : List Value).toArray }).objs.size = Cn at hns₁ hsb₁ S4 hC0 ⊢
  generalize hD : s₂.heap.objs.size = D at S3 S4 hD0 ⊢
  obtain ⟨o1, eo1, no1⟩ := Ns_ob hns₁
  have S5 : St C ρ ((Cn, o1) :: (D, { cls := .type "list", data := .seq ([] : List Value).toArray }) :: (I, ib) :: obs) { s₂ with heap := h₁ } := S4.upd hC0 hsb₁ eo1
  let Inv : Nat → Shared → Prop := fun k s => ∃ i ys ex ib oC oD m, k = n + 1 - i ∧ i ≤ n ∧ itP i ib ∧ NsOb oC m ∧ LsO oD ys ∧ ys.length = i ∧ St C ρ ((I, ib) :: (Cn, oC) :: (D, oD) :: (ex ++ obs)) s ∧ R i ys ex
  have base : Inv (n + 1) { s₂ with heap := h₁, toks := s₂.toks + ([] : List (Str × Value)).length } := by
    refine ⟨0, [], [], ib, o1, { cls := .type "list", data := .seq ([] : List Value).toArray }, _, rfl, Nat.zero_le _, hib, no1, ⟨rfl, 0, rfl⟩, rfl, ?_, h0⟩
    exact (S5.tok _).perm (List.perm_middle (l₁ := [(Cn, o1), (D, _)]))
  have loop : codeAny (model PR C.W.w) A (.compLoop (.ListComp elt [⟨.Name x px, iter, [], 0⟩] scope pos) 0 (.ref I) (.ref D) (compEnvC scope cl Cn C.env)) (RR (.ref D) Cn) { s₂ with heap := h₁, toks := s₂.toks + ([] : List (Str × Value)).length } := by
    refine codeAny_compLoop_list Inv (fun k s hI => ?_) (n + 1) base
    obtain ⟨i, ys, ex, ib, oC, oD, m, rfl, hi, hitp, hNC, hLD, hlen, S, hR⟩ := hI
    by_cases hlt : i < n
    · refine wpAny_mono (N.item i ρ _ ib hlt (fun p hp => List.mem_cons_of_mem _ (List.mem_cons_of_mem _ (List.mem_append_right _ (hneed p hp)))) hitp s S) (fun r s1 ⟨o1, S1, v, ib', hr, hv, hib', ho1⟩ => ?_) (fun _ _ x => x.elim)
      subst hr ho1
      dsimp only
      have S1p : St C ρ ((Cn, oC) :: (I, ib') :: (D, oD) :: (ex ++ obs)) s1 := S1.perm (List.Perm.swap _ _ _)
      refine wpAny_assign_Name (wpAny_storeName_local (env := compEnvC scope cl Cn C.env) hK.hx (hNC.at_ (S1p.ob _ List.mem_cons_self).1) (fun h' hn' hs' => ?_) (by show ((relabel scope C.env).kind == .class || ((relabel scope C.env).kind == .module && _)) = false; rw [show (relabel scope C.env).kind = .function from hK.kind]; rfl))
      obtain ⟨oC2, eC2, nC2⟩ := Ns_ob hn'
      have S2 : St C ρ ((Cn, oC2) :: (I, ib') :: (D, oD) :: (ex ++ obs)) { s1 with heap := h', toks := s1.toks + 1 } := (S1p.upd hC0 hs' eC2).tok (s1.toks + 1)
      have Sin := S2.inner (v := v) (obs' := obs) hK nC2 (if_pos rfl) (((List.sublist_append_right ex obs).cons _).cons _) hC0
      refine wpAny_mono (helt i v _ Cn hlt hv S2.sz _ Sin) (fun y s3 ⟨o3, S3i, ex', hsb, hge, hRR'⟩ => ?_) (fun _ _ x => x.elim)
      have S3 : St C ρ ((Cn, oC2) :: (I, ib') :: (D, oD) :: (ex ++ obs)) s3 := S2.to S3i.wd S3i.kp S3i.sz
      have hsbl := S3i.sb (fun _ h => h) hsb
      have S4 : St C ρ (ex' ++ ((Cn, oC2) :: (I, ib') :: (D, oD) :: (ex ++ obs))) s3 := St.adds S2 S3 ex' (fun p hp => ⟨(hsbl.ob p hp).1, hge p hp⟩) hsbl.nd
      have S5 : St C ρ ((D, oD) :: (I, ib') :: (Cn, oC2) :: ((ex' ++ ex) ++ obs)) s3 := S4.perm ((List.perm_append_comm_assoc ex' [(Cn, oC2), (I, ib'), (D, oD)] (ex ++ obs)).trans (((List.reverse_perm [(Cn, oC2), (I, ib'), (D, oD)]).symm.append_right _).trans (by rw [List.append_assoc]; exact .refl _)))
      refine wpAny_list_append (hLD.isList (S5.ob _ List.mem_cons_self).1) (fun h'' hl'' hs'' => ?_) (by rw [List.size_toArray, hlen, sizeLine_eq]; omega)
      obtain ⟨oD2, eD2, cD2, nD2, dD2⟩ := hl''
      have S6 : St C ρ ((D, oD2) :: (I, ib') :: (Cn, oC2) :: ((ex' ++ ex) ++ obs)) { s3 with heap := h'' } := S5.upd hD0 hs'' eD2
      refine ⟨n + 1 - (i + 1), by omega, i + 1, ys ++ [y], ex' ++ ex, ib', oC2, oD2, _, rfl, hlt, hib', nC2, ⟨cD2, nD2, by rw [dD2]; simp⟩, by rw [List.length_append, hlen]; rfl, S6.perm (List.perm_middle (l₁ := [(I, ib'), (Cn, oC2)])).symm, hRR' ys ex hlen hR⟩
    · have hin : i = n := Nat.le_antisymm hi (Nat.le_of_not_lt hlt)
      subst hin
      refine wpAny_mono (N.done ρ _ ib (fun p hp => List.mem_cons_of_mem _ (List.mem_cons_of_mem _ (List.mem_append_right _ (hneed p hp)))) hitp s S) (fun r s1 ⟨o1, S1, hr, ho1⟩ => ?_) (fun _ _ x => x.elim)
      subst hr ho1
      exact hRR Cn oC m D oD ys ex s1 S1 hNC hLD hC0 hD0 hlen hR
  refine codeAny_compStart_list loop (hself A 0 ib _ _ _ hib ?_ loop)
  exact (S5.ob (I, ib) (List.mem_cons_of_mem _ (List.mem_cons_of_mem _ List.mem_cons_self))).1
end
end Mine
set_option maxRecDepth 100000
set_option Elab.async false
set_option linter.unusedVariables false
namespace Mine
open PySem PySem.W PySem.Spec PyProof.Rows PySem.Calls PySem.W.KBw

section
variable {C : Cx} {A : Around} {E : Value → Shared → Prop} {ρ ρc : Loc} {obs : Led}

/-- all that a comprehension asks of its source -/
structure CpSrc (C : Cx) (A : Around) (scope : Scope) (cl : List (Str × Addr)) (x : Str) (elt : Expr) (ρ ρc : Loc) (I : Addr) (ib : Obj) (o3 : Led) (n : Nat) (R : Nat → List Value → Led → Prop) : Prop where
  src : ∃ itP val need, Nx C A I itP n val need ∧ (∀ p ∈ need, p ∈ o3) ∧ itP 0 ib ∧
    (∀ (A' : Around) i ib s Q E, itP i ib → s.heap.get? I = some ib → Q (.ref I) s → wpAny (model PR C.W.w) A' (pyIter (.ref I)) Q E s) ∧
    ∀ i v he Cn, i < n → val i v → C.he.objs.size ≤ he.objs.size → Ev (cpC C scope cl he Cn) A Fls ((x, v) :: ρc) o3 elt (fun y o' => ∃ ex', Sb ex' o' ∧ (∀ p ∈ ex', he.objs.size ≤ p.1) ∧ ∀ ys ex, ys.length = i → R i ys ex → R (i + 1) (ys ++ [y]) (ex' ++ ex))
  sz : n ≤ 2 ^ 20
  z : R 0 [] []

def cellFree (scope : Scope) : Bool := scope.names.all fun y => y.2 != .cell
def namesOk (scope : Scope) : Bool := scope.names.all fun y => y.2 != .local || scope.names.lookup y.1 == some .local
theorem cellFree_ {scope : Scope} (h : cellFree scope = true) : ∀ y ∈ scope.names, y.2 ≠ .cell := fun y hy e => by
  have := List.all_eq_true.mp h y hy
  rw [e] at this; exact absurd this (by decide)
theorem namesOk_ {scope : Scope} (h : namesOk scope = true) : ∀ y ∈ scope.names, y.2 = .local → scope.names.lookup y.1 = some .local := fun y hy e => by
  have := List.all_eq_true.mp h y hy
  simp only [e, bne_self_eq_false, Bool.false_or, beq_iff_eq] at this
  exact this

theorem Ev_comp {elt iter : Expr} {x : Str} {px : Pos} {scope : Scope} {cl : List (Str × Addr)} {pos : Pos} {Q : Value → Led → Prop} (hK : CpOk C scope cl x ρ ρc) (hclos : closureFor scope C.env = pure cl)
    (h : Ev C A E ρ obs iter fun xv o1 => Tr C A E ρ o1 (pyIter xv) fun it o2 => ∃ I ib o3 n R, it = .ref I ∧ o2 = (I, ib) :: o3 ∧ CpSrc C A scope cl x elt ρ ρc I ib o3 n R ∧
      ∀ D oD ys ex, LsO oD ys → C.he.objs.size ≤ D → ys.length = n → R n ys ex → Q (.ref D) ((D, oD) :: (ex ++ o3)))
    (hcell : cellFree scope = true := by kernel_rfl!) (hnames : namesOk scope = true := by kernel_rfl!) (hs : ∀ x, foldedSetIterable iter C.env x = pure x := by intro _; with_unfolding_all rfl) :
    Ev C A E ρ obs (.ListComp elt [⟨.Name x px, iter, [], 0⟩] scope pos) Q := fun s S => by
  show wpAny _ _ (eval (.ListComp elt [⟨.Name x px, iter, [], 0⟩] scope pos) C.env) _ _ s
  rw [eval_ListComp]
  refine wpAny_comprehension_free (use := none) rfl hs hclos hK.kind (namesOk_ hnames) (wpAny_mono (h s S) (fun xv s₁ ⟨o1, S1, q1⟩ => wpAny_mono (q1 s₁ S1) (fun it s₂ ⟨o2, S2, q2⟩ => ?_) fun _ _ e => e) fun _ _ e => e)
  obtain ⟨I, ib, o3, n, R, rfl, rfl, X, hQ⟩ := q2
  obtain ⟨itP, val, need, N, hneed, hib, hself, helt⟩ := X.src
  refine comp_block R hK (cellFree_ hcell) N hneed hib X.sz X.z hself helt S2 (fun Cn oC m D oD ys ex s' S' hC hD hCn hDn hlen hR => ?_)
  refine ⟨m, hC.at_ (S'.ob _ List.mem_cons_self).1, fun h' hs' => ?_⟩
  obtain ⟨mo, hmo, _⟩ := S'.fr
  exact ⟨_, S'.ext hCn hs'.extBut (by rw [hs'.1]; exact S'.sz), hQ D oD ys ex hD hDn hlen hR⟩

/-- x = [..] where the store and the letting go change places -/
theorem Ex_assign_comp {elt iter : Expr} {x y : Str} {px py : Pos} {scope : Scope} {cl : List (Str × Addr)} {pos spos : Pos} {Q : Flow → Loc → Led → Prop} (hK : CpOk C scope cl x ρ ρc) (hclos : closureFor scope C.env = pure cl)
    (h : Ev C A E ρ obs iter fun xv o1 => Tr C A E ρ o1 (pyIter xv) fun it o2 => ∃ I ib o3 n R, it = .ref I ∧ o2 = (I, ib) :: o3 ∧ CpSrc C A scope cl x elt ρ ρc I ib o3 n R ∧
      ∀ D oD ys ex, LsO oD ys → C.he.objs.size ≤ D → ys.length = n → R n ys ex → Q .next (setL y (.ref D) ρ) ((D, oD) :: (ex ++ o3)))
    (hsw : swapsWith (.ListComp elt [⟨.Name x px, iter, [], 0⟩] scope pos) (some (.Name y py)) spos.line C.env = pure true := by with_unfolding_all rfl) (hk : C.env.kindOf y = some .local := by kernel_rfl!) (hg : C.env.scope.names.lookup (Str.ofString ".0") = none := by kernel_rfl!)
    (hcell : cellFree scope = true := by kernel_rfl!) (hnames : namesOk scope = true := by kernel_rfl!) (hs : ∀ x, foldedSetIterable iter C.env x = pure x := by intro _; with_unfolding_all rfl) :
    Ex C A E ρ obs (exec (.Assign [.Name y py] (.ListComp elt [⟨.Name x px, iter, [], 0⟩] scope pos) spos) C.env) Q := fun s S => by
  rw [exec_Assign_Name_used _ _ _ _ hsw]
  refine wpAny_bind (wpAny_standAt (wpAny_bind ?_))
  show wpAny _ A (do let _ ← comprehension (.ListComp elt [⟨.Name x px, iter, [], 0⟩] scope pos) scope C.env _ (newList []) false (eval iter C.env) (some (assign (.Name y py) C.env))) _ _ s
  refine wpAny_bind (wpAny_mono (wpAny_comprehension_free (use := some (assign (.Name y py) C.env)) (Q := fun _ s' => ∃ ρ' obs', St C ρ' obs' s' ∧ Q .next ρ' obs') rfl hs hclos hK.kind (namesOk_ hnames)
    (wpAny_mono (h s S) (fun xv s₁ ⟨o1, S1, q1⟩ => wpAny_mono (q1 s₁ S1) (fun it s₂ ⟨o2, S2, q2⟩ => ?_) fun _ _ e => e) fun _ _ e => e)) (fun _ s' hq => wpAny_pure (wpAny_pure hq)) fun _ _ e => e)
  obtain ⟨I, ib, o3, n, R, rfl, rfl, X, hQ⟩ := q2
  obtain ⟨itP, val, need, N, hneed, hib, hself, helt⟩ := X.src
  refine comp_block R hK (cellFree_ hcell) N hneed hib X.sz X.z hself helt S2 (fun Cn oC m D oD ys ex s' S' hC hD hCn hDn hlen hR => ?_)
  show wpAny _ A (assign (.Name y py) C.env (.ref D)) _ _ _
  refine wpAny_assign_Name (wpAny_mono (Ex_setL (A := A) (E := E) (Q := fun o' ρ' => o' = _ ∧ ρ' = setL y (.ref D) ρ) hk hg ⟨rfl, rfl⟩ s' S') (fun _ s3 ⟨ρ3, o3', S3, e1, e2⟩ => ?_) fun _ _ x => x)
  subst e1 e2
  refine ⟨m, hC.at_ (S3.ob _ List.mem_cons_self).1, fun h' hs' => ?_⟩
  exact ⟨_, _, S3.ext hCn hs'.extBut (by rw [hs'.1]; exact S3.sz), hQ D oD ys ex hD hDn hlen hR⟩
theorem self_range {w : World} {n : Nat} {I : Addr} : ∀ (A' : Around) (i : Nat) (ib : Obj) (s : Shared) (Q E : Value → Shared → Prop), RiP n i ib → s.heap.get? I = some ib → Q (.ref I) s → wpAny (model PR w) A' (pyIter (.ref I)) Q E s :=
  fun A' i ib s Q E h e q => wpAny_pyIter_rangeiter (by rw [show ib = _ from h] at e; exact e) q
theorem self_list {w : World} {l I : Addr} : ∀ (A' : Around) (i : Nat) (ib : Obj) (s : Shared) (Q E : Value → Shared → Prop), LiP l i ib → s.heap.get? I = some ib → Q (.ref I) s → wpAny (model PR w) A' (pyIter (.ref I)) Q E s :=
  fun A' i ib s Q E h e q => wpAny_pyIter_listiter ⟨ib, e, h⟩ q
end
end Mine
set_option maxRecDepth 100000
set_option Elab.async false
set_option linter.unusedVariables false
namespace Mine
open PySem PySem.W PySem.Spec PyProof.Rows PySem.Calls PySem.W.KBw

section
variable {C : Cx} {A : Around} {E : Value → Shared → Prop} {ρ : Loc} {obs : Led}

theorem Tr_titem {v i : Expr} {a : Addr} {vs : List Value} {k : Nat} {u : Tok} {x : Value} {Q : Value → Led → Prop} (ho : (a, tpO vs) ∈ obs) (hx : vs[k]? = some x) (hlen : vs.length ≤ 2 ^ 40) (h : Q x obs)
    (hs : subscripted i false (.ref a) (.int (k : Int) u) = operate [.ref a, .int (k : Int) u] (getItem (.ref a) (.int (k : Int) u)) := by with_unfolding_all rfl) : Tr C A E ρ obs (subscriptTail v i (.ref a) (.int (k : Int) u)) Q := fun s S => by
  have hk : k < vs.length := (List.getElem?_eq_some_iff.mp hx).1
  exact item_tupleT (l := vs) (j := k) ⟨_, (S.ob _ ho).1, rfl, _, rfl⟩ (by omega) (by omega) (by unfold seqIndex?; simp; omega) hx ⟨obs, S, h⟩ hs

/-- p in places -/
theorem Tr_in_ints {l : Addr} {ol : Obj} {vs : List Value} {ns : List Nat} {p : Nat} {t : Tok} {Q : Value → Led → Prop} (ho : (l, ol) ∈ obs) (hl : LsO ol vs) (hn : NA vs ns) (h : Q (.bool (ns.any (· == p))) obs) : Tr C A E ρ obs (compareOp .In (.int (p : Int) t) (.ref l)) Q := fun s S => by
  have hL := hl.isList (S.ob _ ho).1
  refine SeqAt.in_listAt (e := fun y => match y with | .int k _ => k == (p : Int) | _ => false) hL (fun y hy => ?_) ?_
  · obtain ⟨i, hi, e⟩ := List.getElem_of_mem (by simpa using hy : y ∈ vs)
    obtain ⟨r, t', _, rfl⟩ := hn.val (List.getElem?_eq_some_iff.mpr ⟨hi, e⟩)
    exact SeqAt.EqAt.int_int _ _ _ _
  · have e : (vs.toArray.any fun y => match y with | .int k _ => k == (p : Int) | _ => false) = ns.any (· == p) := by
      rw [List.any_toArray]
      rw [Bool.eq_iff_iff, List.any_eq_true, List.any_eq_true]
      constructor
      · rintro ⟨y, hy, e⟩
        obtain ⟨i, hi, e'⟩ := List.getElem_of_mem hy
        obtain ⟨r, t', hr, rfl⟩ := hn.val (List.getElem?_eq_some_iff.mpr ⟨hi, e'⟩)
        refine ⟨r, List.mem_of_getElem? hr, ?_⟩
        simp only [beq_iff_eq] at e ⊢
        omega
      · rintro ⟨r, hr, e⟩
        obtain ⟨i, hi, e'⟩ := List.getElem_of_mem hr
        obtain ⟨t', h'⟩ := hn.2 i r (List.getElem?_eq_some_iff.mpr ⟨hi, e'⟩)
        refine ⟨_, List.mem_of_getElem? h', ?_⟩
        simp only [beq_iff_eq] at e ⊢
        omega
    rw [e]
    exact ⟨obs, S, h⟩

/-- l.append(x) -/
theorem Ev_append {v : Expr} {ap pos : Pos} {e : Expr} {Q : Value → Led → Prop}
    (h : Ev C A E ρ obs v fun r o1 => ∃ l, r = .ref l ∧ (∃ vs n, (l, lsO vs n) ∈ o1) ∧ Ag C A E ρ o1 pos [e] fun xs o2 => ∃ vs n rest y, xs = [y] ∧ Sb ((l, lsO vs n) :: rest) o2 ∧ vs.length ≤ 2 ^ 20 ∧ C.he.objs.size ≤ l ∧ ∀ n', Q .none ((l, lsO (vs ++ [y]) n') :: rest))
    (hbase : attributeBase v (Str.ofString "append") C.env (eval v C.env) = eval v C.env := by with_unfolding_all rfl) (hline : (ap.endLine == pos.line) = true := by kernel_rfl!)
    (he : starEach [e] C.env = (false, eval e C.env) :: starEach [] C.env := by with_unfolding_all rfl)
    (hfew : ((backTo pos (starEach [e] C.env)).all (fun x => !x.1) && (backToKw pos (keywordEach [] C.env)).all (fun x => x.1.isSome) && decide ([e].length + ([] : List Keyword).length + (if ([] : List Keyword).isEmpty then 0 else 1) < 30)) = true := by with_unfolding_all rfl) :
    Ev C A E ρ obs (.Call (.Attribute v (Str.ofString "append") ap) [e] [] pos) Q := fun s S => by
  refine wpAny_Call_method (T := "list") (id := "list.append") hbase hfew hline PySem.F.plainAttrs_list PySem.slot_list_append PySem.type_list_append (wpAny_mono (h s S) (fun r s1 ⟨o1, S1, l, e1, ⟨vs, n, hm⟩, hQ⟩ => ?_) fun _ _ x => x)
  subst e1
  have hget := (S1.ob _ hm).1
  refine ⟨⟨_, hget, rfl⟩, fun a ea => ?_, callWith_method1 (wpAny_mono (hQ s1 S1) (fun xs s2 ⟨o2, S2, vs, n, rest, y, ex, hsb, hz, hge, q⟩ => ?_) fun _ _ x => x) he (by with_unfolding_all rfl)⟩
  · cases ea; exact ⟨_, hget, rfl⟩
  · subst ex
    have S3 := S2.sb (fun _ h => h) hsb
    have hp := (S3.ob _ List.mem_cons_self).1
    refine wpAny_list_append_plain (items := vs.toArray) ⟨n, hp⟩ (fun h' ⟨n', e'⟩ hs' => ⟨_, S3.upd hge hs' e', ?_⟩) (by rw [List.size_toArray, sizeLine_eq]; omega)
    have := q n'
    unfold lsO at this
    simpa using this

/-- a + b of two lists -/
theorem Tr_cat {a b : Addr} {oa ob : Obj} {vs ws : List Value} {Q : Value → Led → Prop} (h1 : (a, oa) ∈ obs) (h2 : (b, ob) ∈ obs) (l1 : LsO oa vs) (l2 : LsO ob ws) (hz : vs.length + ws.length ≤ 2 ^ 20)
    (h : ∀ r, C.he.objs.size ≤ r → Q (.ref r) ((r, lsO' (vs ++ ws)) :: obs)) : Tr C A E ρ obs (binaryOp .Add (.ref a) (.ref b)) Q := fun s S => by
  obtain ⟨⟨cls, dd, data, sl⟩, ho, hc, n, hd⟩ := id (l1.isList (S.ob _ h1).1)
  obtain ⟨⟨cls2, dd2, data2, sl2⟩, ho2, hc2, n2, hd2⟩ := id (l2.isList (S.ob _ h2).1)
  simp only at hc hd hc2 hd2
  subst hc hd hc2 hd2
  have e : vs.toArray ++ ws.toArray = (vs ++ ws).toArray := by simp
  refine concat_meets ⟨_, ho, rfl⟩ ⟨_, ho2, rfl⟩ noFill_list_add seq_list_add PySem.F.slot_list_add PySem.F.entry_list_add (PySem.F.args_list_add_2 _ _) (list_addW a b vs.toArray ws.toArray n n2 dd dd2 sl sl2 (by rw [sizeLine_eq]; simpa using Nat.le_trans hz (by decide))) ⟨ho, ho2, ?_⟩
  rw [e]
  exact ⟨_, S.push _ rfl, h _ S.size⟩
theorem lsO'_is (vs : List Value) : LsO (lsO' vs) vs := ⟨rfl, _, rfl⟩

/-- l[k] = e -/
theorem Ex_setitem {o i value : Expr} {pos' pos : Pos} {Q : Flow → Loc → Led → Prop}
    (h : Ev C A E ρ obs value fun v o1 => Ev C A E ρ o1 o fun ov o2 => Ev C A E ρ o2 i fun iv o3 => ∃ (l : Addr) (ol : Obj) (vs : List Value) (k : Nat) (t : Tok) (rest : Led), ov = .ref l ∧ iv = .int (k : Int) t ∧ Sb ((l, ol) :: rest) o3 ∧ LsO ol vs ∧ k < vs.length ∧ vs.length ≤ 2 ^ 20 ∧ C.he.objs.size ≤ l ∧
      ∀ ol', LsO ol' (vs.set k v) → Q .next ρ ((l, ol') :: rest))
    (hs : swapsWith value (some (.Subscript o i pos')) pos.line C.env = pure false := by with_unfolding_all rfl) : Ex C A E ρ obs (exec (.Assign [.Subscript o i pos'] value pos) C.env) Q := fun s S => by
  refine wpAny_Assign_Subscript (wpAny_mono (h s S) (fun v s1 ⟨o1, S1, q1⟩ => wpAny_mono (q1 s1 S1) (fun ov s2 ⟨o2, S2, q2⟩ => wpAny_mono (q2 s2 S2) (fun iv s3 ⟨o3, S3, q3⟩ => ?_) fun _ _ x => x) fun _ _ x => x) fun _ _ x => x) hs
  obtain ⟨l, ol, vs, k, t, rest, rfl, rfl, hsb, hl, hk, hz, hge, q⟩ := q3
  have S4 := S3.sb (fun _ h => h) hsb
  refine wpAny_setItem_list (hl.isList (S4.ob _ List.mem_cons_self).1) (by omega) (by omega) (by rw [List.size_toArray]; omega) (fun h' ⟨o', e', hc, n', hd⟩ hs' => ⟨_, _, S4.upd hge hs' e', q o' ⟨hc, n', ?_⟩⟩)
  rw [hd]; simp
theorem Tr_badd {b c : Array UInt8} {t u : Tok} {Q : Value → Led → Prop} (hz : b.size + c.size ≤ 1000) (h : ∀ t, Q (.bytes (b ++ c) t) obs) : Tr C A E ρ obs (binaryOp .Add (.bytes b t) (.bytes c u)) Q := fun s S =>
  KBy.add_bytes (Nat.le_trans hz (by decide)) fun t' k => ⟨obs, S.tok k, h t'⟩
end
end Mine
set_option maxRecDepth 100000
set_option Elab.async false
set_option linter.unusedVariables false
namespace Mine
open PySem PySem.W PySem.Spec PyProof.Rows PySem.Calls PySem.W.KBw

section
variable {C : Cx} {A : Around} {E : Value → Shared → Prop} {ρ : Loc} {obs : Led}

/-- a, b = (.., ..) of two constants -/
theorem Ex_unpack2 {n1 n2 : Str} {p1 p2 tpos pos : Pos} {k : Nat} {value : Expr} {Q : Flow → Loc → Led → Prop} (hh : A.handled = none)
    (h : Ev C A E ρ obs value fun v o1 => ∃ (t : Addr) (x1 x2 : Value), v = .ref t ∧ (t, tpO [x1, x2]) ∈ o1 ∧ Q .next (setL n2 x2 (setL n1 x1 ρ)) o1)
    (hs : swapsWithSole [.Tuple [.Name n1 p1, .Name n2 p2] k tpos] value pos.line C.env = pure false := by with_unfolding_all rfl)
    (hw : swappedStores [.Tuple [.Name n1 p1, .Name n2 p2] k tpos] value C.env = pure none := by with_unfolding_all rfl)
    (hk1 : C.env.kindOf n1 = some .local := by kernel_rfl!) (hk2 : C.env.kindOf n2 = some .local := by kernel_rfl!) (hg : C.env.scope.names.lookup (Str.ofString ".0") = none := by kernel_rfl!) :
    Ex C A E ρ obs (exec (.Assign [.Tuple [.Name n1 p1, .Name n2 p2] k tpos] value pos) C.env) Q := fun s S => by
  refine Assign_Tuple (wpAny_mono (h s S) (fun v s1 ⟨o1, S1, t, x1, x2, ev, hm, q⟩ => ?_) fun _ _ x => x) hs hw
  subst ev
  refine assign_Tuple_tuple (items := #[x1, x2]) hh ⟨_, (S1.ob _ hm).1, rfl, _, rfl⟩ rfl rfl (fun h' he => ?_)
  have hkeep : ∀ b o, s1.heap.get? b = some o → h'.get? b = some o := fun b o e => he b o (Nat.ne_of_lt (Heap.lt_size e)) e
  have hz : C.he.objs.size ≤ h'.objs.size := by
    obtain ⟨m, hmm, _⟩ := S1.fr
    exact Nat.le_trans (S1.sc.gx hg) (Nat.le_of_lt (hmm.keeps hkeep).lt)
  have S2 := S1.keepH hkeep hz
  show wpAny _ _ (assignInOrder [assign (.Name n1 p1) C.env, assign (.Name n2 p2) C.env] [x1, x2]) _ _ _
  unfold assignInOrder
  refine wpAny_bind (wpAny_holding (assign_Name (wpAny_mono (Ex_setL (A := A) (E := E) (Q := fun o' ρ' => o' = o1 ∧ ρ' = setL n1 x1 ρ) hk1 hg ⟨rfl, rfl⟩ _ S2) (fun _ s3 ⟨ρ3, o3, S3, e1, e2⟩ => ?_) fun _ _ x => x)))
  subst e1 e2
  unfold assignInOrder
  refine wpAny_bind (wpAny_holding (assign_Name (wpAny_mono (Ex_setL (A := A) (E := E) (Q := fun o' ρ' => o' = _ ∧ ρ' = setL n2 x2 (setL n1 x1 ρ)) hk2 hg ⟨rfl, rfl⟩ _ S3) (fun _ s4 ⟨ρ4, o4, S4, e1, e2⟩ => ?_) fun _ _ x => x)))
  subst e1 e2
  unfold assignInOrder
  exact wpAny_pure ⟨_, _, S4, q⟩

/-- b[:k] of octets -/
theorem Ev_bto {value e : Expr} {p pos : Pos} {Q : Value → Led → Prop}
    (h : Ev C A E ρ obs value fun a o => Ev C A E ρ o e fun b o' => ∃ (c : Array UInt8) (t : Tok) (k : Nat) (u : Tok), a = .bytes c t ∧ b = .int (k : Int) u ∧ k ≤ c.size ∧ c.size ≤ 1000 ∧ ∀ (d : Array UInt8) t, d.size = k → Q (.bytes d t) o')
    (hs : ∀ (c : Array UInt8) t a, subscripted (.Slice none (some e) none p) false (.bytes c t) (.ref a) = operate [.ref a, .bytes c t] (getItem (.bytes c t) (.ref a)) := by intro _ _ _; with_unfolding_all rfl) : Ev C A E ρ obs (.Subscript value (.Slice none (some e) none p) pos) Q := fun s S => by
  refine Subscript_ (wpAny_mono (h s S) (fun a s1 ⟨o1, S1, q1⟩ => wpAny_Slice ?_) fun _ _ x => x)
  rw [evalPart_none]
  refine wpAny_pure ?_
  show wpAny _ _ (eval e C.env) _ _ _
  refine wpAny_mono (q1 s1 S1) (fun b s2 ⟨o2, S2, q2⟩ => ?_) fun _ _ x => x
  refine wpAny_pure ?_
  obtain ⟨c, t, k, u, rfl, rfl, hk, hz, hq⟩ := q2
  have S3 := (S2.push { cls := .type "slice", data := .fields #[.none, .int (k : Int) u, .none] } rfl).sb (fun _ h => h) (.skip (.refl _))
  refine tail_any (typeIs_bytes _ _ _) FB.slot_bytes_getitem.lookup (getItem_meets (typeIs_bytes _ _ _) (by decide) FB.slot_bytes_getitem FB.entry_bytes_getitem (FB.args_bytes_getitem_2 _ _) (KBc.meets_slice2 c t _ IsPart.none (IsPart.int (k : Int) u)) ⟨Heap.IsSliceOf.new _ _ _ _, ?_, fun t' k' => ⟨_, S3.tok k', hq _ t' ?_⟩⟩) (hs _ _ _)
  · exact Nat.le_trans (KBc.size_picked_le _ _ _) (Nat.le_trans hz (by decide))
  · rw [KBc.picked_eq]
    simp only [Option.elim, clipAt_nat]
    simp
    omega

theorem Tr_clQ {f : Value} {vs : List Value} {P : Value → Prop} {obs' : Led} {Q : Value → Led → Prop} (hs : Sb obs' obs) (hc : ClQ C.W A f vs C.env.locals obs' P) (hg : C.env.scope.names.lookup (Str.ofString ".0") = none) (h : ∀ v, P v → Q v obs) : Tr C A Fls ρ obs (call f vs) Q := fun s S => by
  obtain ⟨l, hl⟩ := hs
  obtain ⟨m, ⟨oF, es, ep, eF, hd, hsk, hns⟩, hρ⟩ := id S.fr
  have hmem : ∀ q ∈ obs', q ∈ obs := fun q hq => hl.mem_iff.mp (List.mem_append_left _ hq)
  have hnd : (obs'.map (·.1)).Nodup := by
    have := (hl.map (·.1)).nodup_iff.mpr S.nd
    rw [List.map_append] at this
    exact (List.nodup_append.mp this).1
  refine wpAny_mono (hc s oF S.wd ⟨fun q hq => ?_, ?_⟩ (fun vs e => by rw [hd] at e; cases e)) (fun v s' ⟨w', k, z, ⟨sl, e'⟩, p⟩ => ⟨obs, ?_, h v p⟩) fun e s' x => x
  · rcases List.mem_cons.mp hq with rfl | hq
    · exact ⟨eF, far_of S.sc.hl⟩
    · have := S.ob q (hmem q hq)
      exact ⟨this.1, this.2.1⟩
  · rw [List.map_cons, List.nodup_cons]
    refine ⟨fun hm => ?_, hnd⟩
    obtain ⟨q, hq, e⟩ := List.mem_map.mp hm
    exact (S.ob q (hmem q hq)).2.2.1 e
  · have up : ∀ b o, b ≠ 150 → b ≠ C.env.locals → s.heap.get? b = some o → s'.heap.get? b = some o := fun b o h1 h2 e => k.keep b o h1 (hideAll_get _ e (by simpa using h2))
    have hlow : ∀ b, b < C.he.objs.size → b ≠ C.env.locals := fun b hb e => absurd (Nat.lt_of_lt_of_le hb (S.sc.gx hg)) (by rw [e]; exact Nat.lt_irrefl _)
    have hcell : ∀ y c v, C.env.cells.lookup y = some c → s.heap.IsCell c v → s'.heap.IsCell c v := fun y c v hc' ⟨o, e, d⟩ => ⟨o, up _ _ (ne150 (S.sc.cl _ _ hc').2) (S.sc.cl _ _ hc').1 e, d⟩
    refine ⟨S.sc, w', ⟨fun b o hb e => up b o hb (hlow b (Heap.lt_size e)) (S.kp.keep b o hb e), fun ps e => ?_⟩, ⟨m, ⟨_, es, ep, e', hd, hsk, hns⟩, fun p hp => ⟨(hρ p hp).1, fun kk => ?_⟩⟩, fun p hp => ?_, S.nd, fun y c hc' => ?_, Nat.le_trans S.sz z⟩
    · obtain ⟨m1, e⟩ := S.kp.tab ps e
      obtain ⟨m2, e⟩ := k.tab _ (hideAll_get _ e (by
        have : (150 : Nat) ≠ C.env.locals := ne150' S.sc.hl
        simpa using this))
      exact ⟨m1 ++ m2, by rw [← Array.append_assoc]; exact e⟩
    · obtain ⟨c, hc', hv⟩ := (hρ p hp).2 kk
      exact ⟨c, hc', hcell _ _ _ hc' hv⟩
    · obtain ⟨a, b, c, d⟩ := S.ob p hp
      exact ⟨up _ _ b.1 c a, b, c, d⟩
    · obtain ⟨v, hv⟩ := S.ce y c hc'
      exact ⟨v, hcell y c v hc' hv⟩
end
end Mine
set_option maxRecDepth 100000
set_option Elab.async false
set_option linter.unusedVariables false
namespace Mine
open PySem PySem.W PySem.Spec PyProof.Rows PySem.Calls PySem.W.KBw

noncomputable def lawB (w : World) : List Stmt := match (fdOf w 202).body with | .stmts b => b | _ => []
section
variable {C : Cx} {A : Around} {E : Value → Shared → Prop} {ρ : Loc} {obs : Led} {w : World} {Q : Flow → Loc → Led → Prop} {env : Env} {s0 s1 s2 s3 s4 s5 s6 s7 s8 s9 s10 s11 s12 s13 s14 s15 s16 s17 s18 s19 s20 s21 s22 s23 s24 s25 s26 s27 : Stmt} {t : List Stmt}
theorem lawB_of {b : List Stmt} (e : (fdOf w 202).body = .stmts b) : lawB w = b := by unfold lawB; rw [e]
theorem from9 (e : (fdOf w 202).body = .stmts (s0 :: s1 :: s2 :: s3 :: s4 :: s5 :: s6 :: s7 :: s8 :: t)) (h : Ex C A E ρ obs (execs t env) Q) : Ex C A E ρ obs (execs ((lawB w).drop 9) env) Q := by rw [lawB_of e]; exact h
theorem to9 (e : (fdOf w 202).body = .stmts (s0 :: s1 :: s2 :: s3 :: s4 :: s5 :: s6 :: s7 :: s8 :: t)) (h : Ex C A E ρ obs (execs ((lawB w).drop 9) env) Q) : Ex C A E ρ obs (execs t env) Q := by rw [lawB_of e] at h; exact h
theorem from13 (e : (fdOf w 202).body = .stmts (s0 :: s1 :: s2 :: s3 :: s4 :: s5 :: s6 :: s7 :: s8 :: s9 :: s10 :: s11 :: s12 :: t)) (h : Ex C A E ρ obs (execs t env) Q) : Ex C A E ρ obs (execs ((lawB w).drop 13) env) Q := by rw [lawB_of e]; exact h
theorem to13 (e : (fdOf w 202).body = .stmts (s0 :: s1 :: s2 :: s3 :: s4 :: s5 :: s6 :: s7 :: s8 :: s9 :: s10 :: s11 :: s12 :: t)) (h : Ex C A E ρ obs (execs ((lawB w).drop 13) env) Q) : Ex C A E ρ obs (execs t env) Q := by rw [lawB_of e] at h; exact h
theorem from18 (e : (fdOf w 202).body = .stmts (s0 :: s1 :: s2 :: s3 :: s4 :: s5 :: s6 :: s7 :: s8 :: s9 :: s10 :: s11 :: s12 :: s13 :: s14 :: s15 :: s16 :: s17 :: t)) (h : Ex C A E ρ obs (execs t env) Q) : Ex C A E ρ obs (execs ((lawB w).drop 18) env) Q := by rw [lawB_of e]; exact h
theorem to18 (e : (fdOf w 202).body = .stmts (s0 :: s1 :: s2 :: s3 :: s4 :: s5 :: s6 :: s7 :: s8 :: s9 :: s10 :: s11 :: s12 :: s13 :: s14 :: s15 :: s16 :: s17 :: t)) (h : Ex C A E ρ obs (execs ((lawB w).drop 18) env) Q) : Ex C A E ρ obs (execs t env) Q := by rw [lawB_of e] at h; exact h
theorem from23 (e : (fdOf w 202).body = .stmts (s0 :: s1 :: s2 :: s3 :: s4 :: s5 :: s6 :: s7 :: s8 :: s9 :: s10 :: s11 :: s12 :: s13 :: s14 :: s15 :: s16 :: s17 :: s18 :: s19 :: s20 :: s21 :: s22 :: t)) (h : Ex C A E ρ obs (execs t env) Q) : Ex C A E ρ obs (execs ((lawB w).drop 23) env) Q := by rw [lawB_of e]; exact h
theorem to23 (e : (fdOf w 202).body = .stmts (s0 :: s1 :: s2 :: s3 :: s4 :: s5 :: s6 :: s7 :: s8 :: s9 :: s10 :: s11 :: s12 :: s13 :: s14 :: s15 :: s16 :: s17 :: s18 :: s19 :: s20 :: s21 :: s22 :: t)) (h : Ex C A E ρ obs (execs ((lawB w).drop 23) env) Q) : Ex C A E ρ obs (execs t env) Q := by rw [lawB_of e] at h; exact h
theorem from26 (e : (fdOf w 202).body = .stmts (s0 :: s1 :: s2 :: s3 :: s4 :: s5 :: s6 :: s7 :: s8 :: s9 :: s10 :: s11 :: s12 :: s13 :: s14 :: s15 :: s16 :: s17 :: s18 :: s19 :: s20 :: s21 :: s22 :: s23 :: s24 :: s25 :: t)) (h : Ex C A E ρ obs (execs t env) Q) : Ex C A E ρ obs (execs ((lawB w).drop 26) env) Q := by rw [lawB_of e]; exact h
theorem to26 (e : (fdOf w 202).body = .stmts (s0 :: s1 :: s2 :: s3 :: s4 :: s5 :: s6 :: s7 :: s8 :: s9 :: s10 :: s11 :: s12 :: s13 :: s14 :: s15 :: s16 :: s17 :: s18 :: s19 :: s20 :: s21 :: s22 :: s23 :: s24 :: s25 :: t)) (h : Ex C A E ρ obs (execs ((lawB w).drop 26) env) Q) : Ex C A E ρ obs (execs t env) Q := by rw [lawB_of e] at h; exact h
theorem from28 (e : (fdOf w 202).body = .stmts (s0 :: s1 :: s2 :: s3 :: s4 :: s5 :: s6 :: s7 :: s8 :: s9 :: s10 :: s11 :: s12 :: s13 :: s14 :: s15 :: s16 :: s17 :: s18 :: s19 :: s20 :: s21 :: s22 :: s23 :: s24 :: s25 :: s26 :: s27 :: t)) (h : Ex C A E ρ obs (execs t env) Q) : Ex C A E ρ obs (execs ((lawB w).drop 28) env) Q := by rw [lawB_of e]; exact h
theorem to28 (e : (fdOf w 202).body = .stmts (s0 :: s1 :: s2 :: s3 :: s4 :: s5 :: s6 :: s7 :: s8 :: s9 :: s10 :: s11 :: s12 :: s13 :: s14 :: s15 :: s16 :: s17 :: s18 :: s19 :: s20 :: s21 :: s22 :: s23 :: s24 :: s25 :: s26 :: s27 :: t)) (h : Ex C A E ρ obs (execs ((lawB w).drop 28) env) Q) : Ex C A E ρ obs (execs t env) Q := by rw [lawB_of e] at h; exact h
end

structure LX (W : Wc) (A : Around) (L : Addr) : Prop where
  hq : W.gq = bareQ
  hdq : W.dq = fun _ => True
  hh : A.handled = none
  room : A.depth + 20 < recursionLimit
  units : A.units + 20 < cLine
  fr : A.frames = some [envF W.w 202 L]
  hL : W.hb.objs.size ≤ L

theorem front {obs : Led} {p : Addr × Obj} (h : p ∈ obs) : ∃ SH, obs.Perm (p :: SH) := by
  obtain ⟨s, t, rfl⟩ := List.append_of_mem h
  exact ⟨s ++ t, List.perm_middle⟩
theorem frontSb {obs : Led} {p : Addr × Obj} (h : p ∈ obs) : ∃ SH, Sb (p :: SH) obs ∧ (∀ q ∈ obs, q ∈ p :: SH) := by
  obtain ⟨SH, e⟩ := front h
  exact ⟨SH, ⟨[], by rw [List.append_nil]; exact e.symm⟩, fun q hq => e.mem_iff.mp hq⟩

section
variable {W : Wc} {he : Heap} {L : Addr} {A : Around} {ρ : Loc} {obs : Led}
theorem law_dot (w : World) (L : Addr) : (envF w 202 L).scope.names.lookup (Str.ofString ".0") = none := by kernel_rfl
theorem law_kind (w : World) (L : Addr) : (envF w 202 L).scope.kind = .function := by kernel_rfl

theorem Tr_refused (X : LX W A L) {l x : Nat} {ol : Obj} {vs : List Value} {ps : List (Nat × Array UInt8)} {tx : Tok} {Q : Value → Led → Prop} (hm : (l, ol) ∈ obs) (hl : LsO ol vs) (hv : Shs vs ps obs) (hlen : ps.length ≤ 100) (hsz : ∀ p ∈ ps, p.2.size ≤ 100)
    (hb : (ps.map (·.1)).Nodup → (dd (lsI ps)).length ≠ 1) (h : Q (.bool true) obs) : Tr ⟨W, he, envF W.w 202 L⟩ A Fls ρ obs (call (.ref 197) [.ref l, .int (x : Int) tx]) Q := by
  obtain ⟨SH, hsb, hin⟩ := frontSb hm
  refine Tr_clQ (P := fun r => r = .bool true) hsb (c_refused X.hq X.hdq X.hh (by have := X.room; omega) (by have := X.units; omega) hl (hv.mono hin) hlen hsz X.fr ?_ rfl X.hL hb) (law_dot _ _) (fun v e => by subst e; exact h)
  rw [law_kind]; decide
theorem Tr_interp (X : LX W A L) {l x sz : Nat} {ol : Obj} {vs : List Value} {ps : List (Nat × Array UInt8)} {tx : Tok} {Q : Value → Led → Prop} (hm : (l, ol) ∈ obs) (hl : LsO ol vs) (hv : Shs vs ps obs) (hp : ∀ p ∈ ps, p.1 < 256) (hx : x < 256) (hlen : ps.length ≤ 100) (hsz : sz ≤ 100) (hg : Gd ps sz)
    (h : ∀ t, Q (.bytes (interpA ps x sz) t) obs) : Tr ⟨W, he, envF W.w 202 L⟩ A Fls ρ obs (call (.ref 155) [.ref l, .int (x : Int) tx]) Q := by
  obtain ⟨SH, hsb, hin⟩ := frontSb hm
  exact Tr_clE (X := fun _ _ _ => False) hsb (c_interp X.hq X.hdq X.hh (by have := X.room; omega) hl (hv.mono hin) hp hx hlen hsz hg) (fun v ⟨t, e⟩ => by subst e; exact h t) (fun _ _ _ _ x => x)
theorem Tr_at (X : LX W A L) {a x o k : Nat} {ob : Obj} {vs : List Value} {rs : List Nat} {t u : Tok} {Q : Value → Led → Prop} (hm : (a, ob) ∈ obs) (hl : LsO ob vs) (hi : NA vs rs) (hne : 0 < rs.length) (hlen : rs.length ≤ 2 ^ 20)
    (hx : x < 2 ^ 20) (hk : k ≤ 200) (ho : o < 2 ^ 200) (hc : ∀ r, r < 2 ^ k → xt o r < 2 ^ k) (hr : ∀ r ∈ rs, r < 2 ^ k) (h : ∀ t, Q (.int (lawAt x o rs : Nat) t) obs) : Tr ⟨W, he, envF W.w 202 L⟩ A Fls ρ obs (call (.ref 183) [.ref a, .int (x : Int) t, .int (o : Int) u]) Q := by
  refine Tr_cl (Cl_sub (obs' := [(a, ob)]) ?_ (c_at (by have := X.room; omega) X.hh hl hi hne hlen hx hk ho hc hr)) (fun v ⟨t, e⟩ => by subst e; exact h t)
  obtain ⟨SH, hsb, _⟩ := frontSb hm
  exact Sb.trans ⟨SH, .refl _⟩ hsb
theorem Tr_same (X : LX W A L) {b c : Array UInt8} {t u : Tok} {Q : Value → Led → Prop} (h : Q (.bool (b.toList == c.toList)) obs) : Tr ⟨W, he, envF W.w 202 L⟩ A Fls ρ obs (call (.ref 190) [.bytes b t, .bytes c u]) Q :=
  Tr_cl (c_same (by have := X.room; omega)) (fun v e => by subst e; exact h)
theorem Tr_times (X : LX W A L) {s r o : Nat} {t1 t2 t3 : Tok} {Q : Value → Led → Prop} (hs : s < 2 ^ 20) (hr : r < 2 ^ 200) (ho : o < 2 ^ 200) (h : ∀ t, Q (.int (times s r o : Nat) t) obs) : Tr ⟨W, he, envF W.w 202 L⟩ A Fls ρ obs (call (.ref 176) [.int (s : Int) t1, .int (r : Int) t2, .int (o : Int) t3]) Q :=
  Tr_cl (Cl_less (c_times (by have := X.room; omega) hs hr ho)) (fun v ⟨t, e⟩ => by subst e; exact h t)
end

theorem bad_len {ps : List (Nat × Array UInt8)} {p q : Nat × Array UInt8} (hp : p ∈ ps) (hq : q ∈ ps) (h : p.2.size ≠ q.2.size) : (dd (lsI ps)).length ≠ 1 := fun e => by
  obtain ⟨k, hk⟩ := List.length_eq_one_iff.mp e
  have m : ∀ r ∈ ps, (r.2.size : Int) = k := fun r hr => by
    have : (r.2.size : Int) ∈ dd (lsI ps) := (dd_mem _ _).mpr (List.mem_map.mpr ⟨r, hr, rfl⟩)
    rw [hk] at this
    exact List.mem_singleton.mp this
  have h1 := m p hp
  have h2 := m q hq
  exact h (by omega)

theorem Shs.snoc {vs : List Value} {ps : List (Nat × Array UInt8)} {obs : Led} {a d : Addr} {x : Nat} {b : Array UInt8} {t u : Tok} (h : Shs vs ps obs) (h1 : (a, rsO (.int (x : Int) t) (.bytes b u) d) ∈ obs) (h2 : (d, dO) ∈ obs) : Shs (vs ++ [.ref a]) (ps ++ [(x, b)]) obs :=
  ⟨by simp [h.len], fun i p hp => by
    by_cases hi : i < ps.length
    · rw [List.getElem?_append_left hi] at hp
      obtain ⟨a', d', t', u', e, r⟩ := h.at_ i p hp
      exact ⟨a', d', t', u', by rw [List.getElem?_append_left (by rw [h.len]; exact hi)]; exact e, r⟩
    · rw [List.getElem?_append_right (Nat.le_of_not_lt hi)] at hp
      have h0 : i - ps.length = 0 := by
        have := (List.getElem?_eq_some_iff.mp hp).1
        simp at this; omega
      rw [h0] at hp
      cases hp
      refine ⟨a, d, t, u, ?_, h1, h2⟩
      rw [List.getElem?_append_right (by rw [h.len]; exact Nat.le_of_not_lt hi), h.len, h0]; rfl⟩
theorem Shs.append {vs ws : List Value} {ps qs : List (Nat × Array UInt8)} {obs : Led} (h : Shs vs ps obs) (k : Shs ws qs obs) : Shs (vs ++ ws) (ps ++ qs) obs :=
  ⟨by simp [h.len, k.len], fun i p hp => by
    by_cases hi : i < ps.length
    · rw [List.getElem?_append_left hi] at hp
      obtain ⟨a', d', t', u', e, r⟩ := h.at_ i p hp
      exact ⟨a', d', t', u', by rw [List.getElem?_append_left (by rw [h.len]; exact hi)]; exact e, r⟩
    · rw [List.getElem?_append_right (Nat.le_of_not_lt hi)] at hp
      obtain ⟨a', d', t', u', e, r⟩ := k.at_ _ p hp
      exact ⟨a', d', t', u', by rw [List.getElem?_append_right (by rw [h.len]; exact Nat.le_of_not_lt hi), h.len]; exact e, r⟩⟩
theorem Shs.take {vs : List Value} {ps : List (Nat × Array UInt8)} {obs : Led} (h : Shs vs ps obs) (k : Nat) : Shs (vs.take k) (ps.take k) obs :=
  ⟨by simp [h.len], fun i p hp => by
    rw [List.getElem?_take] at hp
    split at hp
    · rename_i hi
      obtain ⟨a', d', t', u', e, r⟩ := h.at_ i p hp
      exact ⟨a', d', t', u', by rw [List.getElem?_take, if_pos hi]; exact e, r⟩
    · cases hp⟩
theorem Shs.drop {vs : List Value} {ps : List (Nat × Array UInt8)} {obs : Led} (h : Shs vs ps obs) (k : Nat) : Shs (vs.drop k) (ps.drop k) obs :=
  ⟨by simp [h.len], fun i p hp => by
    rw [List.getElem?_drop] at hp
    obtain ⟨a', d', t', u', e, r⟩ := h.at_ _ p hp
    exact ⟨a', d', t', u', by rw [List.getElem?_drop]; exact e, r⟩⟩
theorem Shs.one {obs : Led} {a d : Addr} {x : Nat} {b : Array UInt8} {t u : Tok} (h1 : (a, rsO (.int (x : Int) t) (.bytes b u) d) ∈ obs) (h2 : (d, dO) ∈ obs) : Shs [.ref a] [(x, b)] obs :=
  ⟨rfl, fun i p hp => by
    have h0 : i = 0 := by
      have := (List.getElem?_eq_some_iff.mp hp).1
      simp at this; omega
    subst h0
    cases hp
    exact ⟨a, d, t, u, rfl, h1, h2⟩⟩
end Mine
set_option maxRecDepth 100000
set_option Elab.async false
set_option linter.unusedVariables false
namespace Mine
open PySem PySem.W PySem.Spec PyProof.Rows PySem.Calls PySem.W.KBw

local macro_rules | `(tactic| walk_at "m") => `(tactic| first
  | assumption
  | with_reducible exact List.mem_cons_self
  | with_reducible exact setL_here
  | (with_reducible refine setL_there' ?_ (by dsimp only; decide +kernel); walk_at "m")
  | (with_reducible refine List.mem_cons_of_mem _ ?_; walk_at "m"))

theorem Ex_mid {C : Cx} {A : Around} {E : Value → Shared → Prop} {ρ : Loc} {obs : Led} {st : Stmt} {r : List Stmt} {Q : Flow → Loc → Led → Prop} (Mid : Loc → Led → Prop) (h1 : Ex C A E ρ obs (exec st C.env) fun f ρ' o => f = .next ∧ Mid ρ' o) (h2 : ∀ ρ' o, Mid ρ' o → Ex C A E ρ' o (execs r C.env) Q) :
    Ex C A E ρ obs (execs (st :: r) C.env) Q := Ex_cons (Ex_mono h1 fun f ρ' o ⟨e, m⟩ => by subst e; exact h2 ρ' o m)

theorem g_rs (w : World) : gvar w (Str.ofString "RawShare") = some (.ref 145) := by kernel_rfl
theorem g_ref (w : World) : gvar w (Str.ofString "_law_refused") = some (.ref 197) := by kernel_rfl
theorem g_same (w : World) : gvar w (Str.ofString "_law_same") = some (.ref 190) := by kernel_rfl
theorem g_at (w : World) : gvar w (Str.ofString "_law_at") = some (.ref 183) := by kernel_rfl
theorem g_times (w : World) : gvar w (Str.ofString "_law_times") = some (.ref 176) := by kernel_rfl
theorem g_number (w : World) : gvar w (Str.ofString "_law_number") = some (.ref 162) := by kernel_rfl
theorem g_row (w : World) : gvar w (Str.ofString "_law_row") = some (.ref 169) := by kernel_rfl
theorem k_rs (w : World) : keepIn (KK w) (.ref 145) = true := by kernel_rfl
theorem k_ref (w : World) : keepIn (KK w) (.ref 197) = true := by kernel_rfl
theorem k_same (w : World) : keepIn (KK w) (.ref 190) = true := by kernel_rfl
theorem k_at (w : World) : keepIn (KK w) (.ref 183) = true := by kernel_rfl
theorem k_times (w : World) : keepIn (KK w) (.ref 176) = true := by kernel_rfl
theorem k_number (w : World) : keepIn (KK w) (.ref 162) = true := by kernel_rfl
theorem k_row (w : World) : keepIn (KK w) (.ref 169) = true := by kernel_rfl
theorem k_itp (w : World) : keepIn (KK w) (.ref 155) = true := by kernel_rfl

theorem lawG {W : Wc} {he : Heap} {L : Addr} {A : Around} {ρ : Loc} {obs : Led} (X : LX W A L) {lp : Addr} {olp : Obj} {pv : List Value} {ps : List (Nat × Array UInt8)} {size free any which : Nat} {ts tf ta tw : Tok}
    (np : (Str.ofString "points", .ref lp) ∈ ρ) (nsz : (Str.ofString "size", .int (size : Int) ts) ∈ ρ) (nf : (Str.ofString "free", .int (free : Int) tf) ∈ ρ) (na : (Str.ofString "anywhere", .int (any : Int) ta) ∈ ρ) (nw : (Str.ofString "which", .int (which : Int) tw) ∈ ρ)
    (hm : (lp, olp) ∈ obs) (hl : LsO olp pv) (hv : Shs pv ps obs) (hlen : ps.length ≤ 50) (hne : 0 < ps.length) (hsz : ∀ p ∈ ps, p.2.size = size) (hsize : size ≤ 17) (hwh : which ≤ ps.length) :
    Ex ⟨W, he, envF W.w 202 L⟩ A Fls ρ obs (execs ((lawB W.w).drop 28) (envF W.w 202 L)) (fun fl _ _ => fl = .ret (.bool true)) := by
  have hroom := X.room
  obtain ⟨a0, d0, t0, u0, e0, m0, m0'⟩ := hv.at_ 0 ps[0] (List.getElem?_eq_getElem hne)
  have hs0 : ps[0].2.size = size := hsz _ (List.getElem_mem hne)
  refine from28 (by with_unfolding_all rfl) ?_
  with_reducible refine Ex_cons (Ex_assign (Ev_list (Ag_cons (Ev_bin (Ev_attr (Ev_sub (Ev_name (v := .ref lp) (by walk_at "m") (En_int (i := 0) fun t1 => Tr_item (x := .ref a0) (by walk_at "m") hl (by decide) (by decide) (by with_unfolding_all exact e0) (Tr_getd m0 m0' (by omega) (Ev_bytes fun t2 => Tr_badd ?_ fun t3 => Ag_nil ⟨?_, fun lo hlo => ?_⟩))))))))))
  · rw [hs0]; show size + 1 ≤ 1000; omega
  · show 1 ≤ _; decide
  refine Ex_mid (fun ρ' o => (Str.ofString "odds", .ref lo) ∈ ρ' ∧ (∀ p ∈ ρ, p.1 ≠ Str.ofString "odds" → p ∈ ρ') ∧ ∃ ws n, (lo, lsO ws n) ∈ o ∧ (∀ p ∈ obs, p ∈ o) ∧ ws.length ≤ 2 ∧ ∀ v ∈ ws, ∃ d t, v = .bytes d t ∧ d.size ≠ size ∧ d.size ≤ 50) ?_ ?_
  · have hb1 : ∀ v ∈ [Value.bytes (ps[0].2 ++ [0].toArray) t3], ∃ d t, v = .bytes d t ∧ d.size ≠ size ∧ d.size ≤ 50 := fun v hv' => by
      rw [List.mem_singleton.mp hv']
      refine ⟨_, _, rfl, ?_, ?_⟩
      · rw [Array.size_append, hs0]; show size + 1 ≠ size; omega
      · rw [Array.size_append, hs0]; show size + 1 ≤ 50; omega
    with_reducible refine Ex_if (Ts_cmp (Ev_name (v := .int (size : Int) ts) (by walk_at "m") (En_int (i := 0) fun t4 => Tn_gt (Tr_bool ?_))))
    by_cases h0 : 0 < size
    · rw [if_pos (by simpa using h0)]
      with_reducible refine Ex_cons (Ex_expr (Ev_append (Ev_name (v := .ref lo) (by walk_at "m") ⟨lo, rfl, ⟨_, 0, List.mem_cons_self⟩, ?_⟩)))
      with_reducible refine Ag_cons (Ev_bto (Ev_attr (Ev_sub (Ev_name (v := .ref lp) (by walk_at "m") (En_int (i := 0) fun t5 => Tr_item (x := .ref a0) (by walk_at "m") hl (by decide) (by decide) (by with_unfolding_all exact e0) (Tr_getd (by walk_at "m") (by walk_at "m") (by omega) (Ev_bin (Ev_name (v := .int (size : Int) ts) (by walk_at "m") (En_int (i := 1) fun t6 => Tr_sub fun t7 => ?_)))))))))
      refine ⟨ps[0].2, u0, size - 1, t7, rfl, by congr 1; omega, by omega, by omega, fun d t hd => Ag_nil ⟨_, 0, obs, _, rfl, .refl _, by show 1 ≤ _; decide, hlo, fun n' => ⟨by with_unfolding_all rfl, Ex_nil ⟨rfl, by walk_at "m", fun p hp hp' => setL_there hp (by simpa using hp'), _, n', List.mem_cons_self, fun p hp => List.mem_cons_of_mem _ hp, by show 2 ≤ 2; decide, fun v hv' => ?_⟩⟩⟩⟩
      rcases List.mem_append.mp hv' with h | h
      · exact hb1 v h
      · rw [List.mem_singleton.mp h]
        exact ⟨d, t, rfl, by omega, by omega⟩
    · rw [if_neg (by simpa using h0)]
      exact Ex_nil ⟨rfl, by walk_at "m", fun p hp hp' => setL_there hp (by simpa using hp'), _, 0, List.mem_cons_self, fun p hp => List.mem_cons_of_mem _ hp, by show 1 ≤ 2; decide, hb1⟩
  · rintro ρ1 o1 ⟨no, hρ1, ws, n, mo, ho1, hwl, hws⟩
    have np1 := hρ1 _ np (by dsimp only; decide +kernel)
    have nf1 := hρ1 _ nf (by dsimp only; decide +kernel)
    have na1 := hρ1 _ na (by dsimp only; decide +kernel)
    have nw1 := hρ1 _ nw (by dsimp only; decide +kernel)
    have hm1 := ho1 _ hm
    have hv1 := hv.mono ho1
    refine Ex_mid (fun ρ' o => True) ?_ ?_
    · with_reducible refine Ex_for (Ev_name (v := .ref lo) (by walk_at "m") (Tr_iter_list mo (lsO_is ws n) (fun it ib hit hib => ?_)))
      refine ⟨it, ib, _, LiP lo, _, _, _, rfl, rfl, nx_list (C := ⟨W, he, envF W.w 202 L⟩) X.hh hit (lsO_is ws n), hib, fun i ρ o => ((Str.ofString "points", Value.ref lp) ∈ ρ ∧ (Str.ofString "free", Value.int (free : Int) tf) ∈ ρ ∧ (Str.ofString "anywhere", Value.int (any : Int) ta) ∈ ρ ∧ (Str.ofString "which", Value.int (which : Int) tw) ∈ ρ) ∧ ∀ p ∈ o1, p ∈ o, ?_, ⟨⟨np1, nf1, na1, nw1⟩, fun p hp => hp⟩, ?_, ?_⟩
      · rintro i ρ o ⟨_, h⟩ p hp
        rw [List.mem_singleton.mp hp]; exact h _ mo
      · rintro i ρ2 o2 v ib' hi hv' hib' ⟨⟨a1, a2, a3, a4⟩, ho2⟩
        obtain ⟨d, td, rfl, hd1, hd2⟩ := hws v (List.mem_of_getElem? hv')
        have hm2 := ho2 _ hm1
        have hv2 := hv1.mono ho2
        with_reducible refine Ex_cons (Ex_assign (Ev_call (f := .ref 145) (g_rs _) (k_rs _) (Ag_cons (Ev_name (v := .int (free : Int) tf) (by walk_at "m") (Ag_cons (Ev_name (v := .bytes d td) (by walk_at "m") (Ag_nil (Tr_mk (by omega) fun an dn han hdn => ?_))))))))
        have hlen1 : (ps ++ [(free, d)]).length ≤ 100 := by rw [List.length_append]; show ps.length + 1 ≤ 100; omega
        have hsz1 : ∀ p ∈ ps ++ [(free, d)], p.2.size ≤ 100 := fun p hp => by
          rcases List.mem_append.mp hp with h | h
          · rw [hsz p h]; omega
          · rw [List.mem_singleton.mp h]; show d.size ≤ 100; omega
        have hbad1 : (dd (lsI (ps ++ [(free, d)]))).length ≠ 1 := bad_len (p := ps[0]) (q := (free, d)) (List.mem_append_left _ (List.getElem_mem hne)) (List.mem_append_right _ List.mem_cons_self) (by rw [hs0]; exact Ne.symm hd1)
        with_reducible refine Ex_cons (Ex_if (Ts_or (Ts_not (Ts_value (Ev_call (f := .ref 197) (g_ref _) (k_ref _) ?_)))))
        with_reducible refine Ag_cons (Ev_bin (Ev_name (v := .ref lp) (by walk_at "m") (Ev_list (Ag_cons (Ev_name (v := .ref an) (by walk_at "m") (Ag_nil ?_))))))
        refine ⟨by show 1 ≤ _; decide, fun l1 hl1 => Tr_cat (vs := pv) (ws := [.ref an]) (by walk_at "m") List.mem_cons_self hl (lsO'_is _) (by rw [hv.len]; show ps.length + 1 ≤ _; omega) fun r1 hr1 => ?_⟩
        with_reducible refine Ag_cons (Ev_name (v := .int (any : Int) ta) (by walk_at "m") (Ag_nil (Tr_refused X List.mem_cons_self (lsO'_is _) (ps := ps ++ [(free, d)]) ?_ hlen1 hsz1 (fun _ => hbad1) (Tr_bool ?_))))
        · exact Shs.snoc (a := an) (d := dn) (hv2.mono fun p hp => by walk_at "m") (by walk_at "m") (by walk_at "m")
        show if (!true) = true then _ else _
        rw [if_neg (by decide)]
        have hlen2 : (ps.take which ++ [(free, d)] ++ ps.drop which).length ≤ 100 := by rw [List.length_append, List.length_append, List.length_take, List.length_drop]; show _ + 1 + _ ≤ 100; omega
        have hsz2 : ∀ p ∈ ps.take which ++ [(free, d)] ++ ps.drop which, p.2.size ≤ 100 := fun p hp => by
          rcases List.mem_append.mp hp with h | h
          · rcases List.mem_append.mp h with h | h
            · rw [hsz p (List.mem_of_mem_take h)]; omega
            · rw [List.mem_singleton.mp h]; show d.size ≤ 100; omega
          · rw [hsz p (List.mem_of_mem_drop h)]; omega
        have hmem0 : ps[0] ∈ ps.take which ++ [(free, d)] ++ ps.drop which := by
          have : ps[0] ∈ ps.take which ++ ps.drop which := by rw [List.take_append_drop]; exact List.getElem_mem hne
          rcases List.mem_append.mp this with h | h
          · exact List.mem_append_left _ (List.mem_append_left _ h)
          · exact List.mem_append_right _ h
        have hbad2 : (dd (lsI (ps.take which ++ [(free, d)] ++ ps.drop which))).length ≠ 1 := bad_len (p := ps[0]) (q := (free, d)) hmem0 (List.mem_append_left _ (List.mem_append_right _ List.mem_cons_self)) (by rw [hs0]; exact Ne.symm hd1)
        with_reducible refine Ts_not (Ts_value (Ev_call (f := .ref 197) (g_ref _) (k_ref _) ?_))
        with_reducible refine Ag_cons (Ev_bin (Ev_bin (Ev_to (Ev_name (v := .ref lp) (by walk_at "m") (Ev_name (v := .int (which : Int) tw) (by walk_at "m") ?_)))))
        refine ⟨lp, olp, pv, which, tw, rfl, rfl, by walk_at "m", hl, by rw [hv.len]; exact hwh, by rw [hv.len]; omega, fun l2 hl2 => ?_⟩
        with_reducible refine Ev_list (Ag_cons (Ev_name (v := .ref an) (by walk_at "m") (Ag_nil ?_)))
        refine ⟨by show 1 ≤ _; decide, fun l3 hl3 => Tr_cat (vs := pv.take which) (ws := [.ref an]) (by walk_at "m") List.mem_cons_self (lsO_is _ _) (lsO'_is _) (by rw [List.length_take, hv.len]; show _ + 1 ≤ _; omega) fun r2 hr2 => ?_⟩
        with_reducible refine Ev_from (Ev_name (v := .ref lp) (by walk_at "m") (Ev_name (v := .int (which : Int) tw) (by walk_at "m") ?_))
        refine ⟨lp, olp, pv, which, tw, rfl, rfl, by walk_at "m", hl, by rw [hv.len]; exact hwh, by rw [hv.len]; omega, fun l4 hl4 => ?_⟩
        refine Tr_cat (vs := pv.take which ++ [.ref an]) (ws := pv.drop which) (by walk_at "m") List.mem_cons_self (lsO'_is _) (lsO_is _ _) (by rw [List.length_append, List.length_take, List.length_drop, hv.len]; show _ + 1 + _ ≤ _; omega) fun r3 hr3 => ?_
        with_reducible refine Ag_cons (Ev_name (v := .int (free : Int) tf) (by walk_at "m") (Ag_nil (Tr_refused X List.mem_cons_self (lsO'_is _) (ps := ps.take which ++ [(free, d)] ++ ps.drop which) ?_ hlen2 hsz2 (fun _ => hbad2) (Tr_bool ?_))))
        · refine Shs.append (Shs.append (hv2.take which |>.mono fun p hp => by walk_at "m") (Shs.one (a := an) (d := dn) (by walk_at "m") (by walk_at "m"))) (hv2.drop which |>.mono fun p hp => by walk_at "m")
        show if (!true) = true then _ else _
        rw [if_neg (by decide)]
        refine Ex_nil (Ex_nil ⟨o2, ?_, ⟨by walk_at "m", by walk_at "m", by walk_at "m", by walk_at "m"⟩, ho2⟩)
        repeat (first | exact .refl _ | refine .skip ?_)
      · rintro ρ2 o2 _
        exact ⟨rfl, trivial⟩
    · rintro ρ2 o2 _
      with_reducible refine Ex_cons (Ex_ret (Ev_bool ?_))
      rfl
end Mine
set_option maxRecDepth 100000
set_option maxHeartbeats 4000000
set_option Elab.async false
set_option linter.unusedVariables false
namespace Mine
open PySem PySem.W PySem.Spec PyProof.Rows PySem.Calls PySem.W.KBw

local macro_rules | `(tactic| walk_at "m") => `(tactic| first
  | assumption
  | with_reducible exact List.mem_cons_self
  | with_reducible exact setL_here
  | (with_reducible refine setL_there' ?_ (by dsimp only; decide +kernel); walk_at "m")
  | (with_reducible refine List.mem_cons_of_mem _ ?_; walk_at "m"))

theorem Shs.nil {obs : Led} : Shs [] [] obs := ⟨rfl, fun i p hp => by simp at hp⟩

theorem lawF {W : Wc} {he : Heap} {L : Addr} {A : Around} {ρ : Loc} {obs : Led} (X : LX W A L) {lp lk lt lq aw dw : Addr} {olp olk olt olq : Obj} {pv tv qv : List Value} {ps : List (Nat × Array UInt8)} {bw : Array UInt8} {size free any which xw : Nat} {ts tf ta tw tx tx' ub : Tok}
    (np : (Str.ofString "points", .ref lp) ∈ ρ) (nsz : (Str.ofString "size", .int (size : Int) ts) ∈ ρ) (nf : (Str.ofString "free", .int (free : Int) tf) ∈ ρ) (na : (Str.ofString "anywhere", .int (any : Int) ta) ∈ ρ) (nw : (Str.ofString "which", .int (which : Int) tw) ∈ ρ)
    (nk : (Str.ofString "kept", .ref lk) ∈ ρ) (nt : (Str.ofString "turned", .ref lt) ∈ ρ) (nq : (Str.ofString "places", .ref lq) ∈ ρ)
    (hm : (lp, olp) ∈ obs) (hl : LsO olp pv) (hmk : (lk, olk) ∈ obs) (hlk : LsO olk pv) (hmt : (lt, olt) ∈ obs) (hlt : LsO olt tv) (hmq : (lq, olq) ∈ obs) (hlq : LsO olq qv)
    (htw : tv[which]? = some (.ref aw)) (ma : (aw, rsO (.int (xw : Int) tx) (.bytes bw ub) dw) ∈ obs) (md : (dw, dO) ∈ obs) (hbw : bw.size ≤ 100) (hxw : xw ∈ ps.map (·.1)) (hqw : qv[which]? = some (.int (xw : Int) tx'))
    (hv : Shs pv ps obs) (hlen : ps.length ≤ 50) (hne : 0 < ps.length) (hsz : ∀ p ∈ ps, p.2.size = size) (hsize : size ≤ 17) (hwh : which ≤ ps.length) :
    Ex ⟨W, he, envF W.w 202 L⟩ A Fls ρ obs (execs ((lawB W.w).drop 26) (envF W.w 202 L)) (fun fl _ _ => fl = .ret (.bool true)) := by
  have hroom := X.room
  have hunit := X.units
  refine from26 (by with_unfolding_all rfl) ?_
  with_reducible refine Ex_cons (Ex_if (Ts_or (Ts_cmp (Ev_name (v := .ref lp) (by walk_at "m") (Ev_name (v := .ref lk) (by walk_at "m") (Tr_ne_same hm hmk hl hlk ?_ (Tr_bool ?_)))))))
  · omega
  rw [if_neg (by decide)]
  with_reducible refine Ts_not (Ts_value (Ev_call (f := .ref 197) (g_ref _) (k_ref _) (Ag_cons (Ev_list (Ag_nil ⟨?_, fun l0 hl0 => ?_⟩)))))
  · show 0 ≤ _; decide
  with_reducible refine Ag_cons (Ev_name (v := .int (free : Int) tf) (by walk_at "m") (Ag_nil (Tr_refused X List.mem_cons_self (lsO'_is _) Shs.nil ?_ ?_ ?_ (Tr_bool ?_))))
  · show 0 ≤ _; decide
  · exact fun p hp => nomatch hp
  · exact fun _ => by decide
  show if (!true) = true then _ else _
  rw [if_neg (by decide)]
  refine Ex_nil ?_
  have hlen1 : (ps ++ [(xw, bw)]).length ≤ 100 := by rw [List.length_append]; show ps.length + 1 ≤ 100; omega
  have hlen2 : ([(xw, bw)] ++ ps).length ≤ 100 := by rw [List.length_append]; show 1 + ps.length ≤ 100; omega
  have hs1 : ∀ p ∈ ps ++ [(xw, bw)], p.2.size ≤ 100 := fun p hp => by
    rcases List.mem_append.mp hp with h | h
    · rw [hsz p h]; omega
    · rw [List.mem_singleton.mp h]; exact hbw
  have hs2 : ∀ p ∈ [(xw, bw)] ++ ps, p.2.size ≤ 100 := fun p hp => by
    rcases List.mem_append.mp hp with h | h
    · rw [List.mem_singleton.mp h]; exact hbw
    · rw [hsz p h]; omega
  have hb1 : ¬ ((ps ++ [(xw, bw)]).map (·.1)).Nodup := fun h => by
    rw [List.map_append, List.nodup_append] at h
    exact h.2.2 xw hxw xw List.mem_cons_self rfl
  have hb2 : ¬ (([(xw, bw)] ++ ps).map (·.1)).Nodup := fun h => by
    rw [List.map_append, List.nodup_append] at h
    exact h.2.2 xw List.mem_cons_self xw hxw rfl
  refine Ex_mid (fun ρ' o => ((Str.ofString "points", Value.ref lp) ∈ ρ' ∧ (Str.ofString "size", Value.int (size : Int) ts) ∈ ρ' ∧ (Str.ofString "free", Value.int (free : Int) tf) ∈ ρ' ∧ (Str.ofString "anywhere", Value.int (any : Int) ta) ∈ ρ' ∧ (Str.ofString "which", Value.int (which : Int) tw) ∈ ρ') ∧ ∀ p ∈ obs, p ∈ o) ?_ ?_
  · with_reducible refine Ex_for (Ev_tuple (Ag_cons (Ev_name (v := .int (free : Int) tf) (by walk_at "m") (Ag_cons (Ev_sub (Ev_name (v := .ref lq) (by walk_at "m") (Ev_name (v := .int (which : Int) tw) (by walk_at "m") (Tr_item (x := .int (xw : Int) tx') (by walk_at "m") hlq ?_ ?_ ?_ (Ag_nil ⟨?_, fun lx hlx => ?_⟩)))))))))
    · omega
    · have := X.room; omega
    · simpa using hqw
    · show 2 ≤ _; decide
    refine Tr_iter_tuple List.mem_cons_self (tpO_is [Value.int (free : Int) tf, Value.int (xw : Int) tx']) (fun it ib hit hib => ?_)
    refine ⟨it, ib, _, TiP lx, _, _, _, rfl, rfl, nx_tuple (C := ⟨W, he, envF W.w 202 L⟩) X.hh hit (tpO_is [Value.int (free : Int) tf, Value.int (xw : Int) tx']), hib, fun i ρ o => ((Str.ofString "points", Value.ref lp) ∈ ρ ∧ (Str.ofString "size", Value.int (size : Int) ts) ∈ ρ ∧ (Str.ofString "free", Value.int (free : Int) tf) ∈ ρ ∧ (Str.ofString "anywhere", Value.int (any : Int) ta) ∈ ρ ∧ (Str.ofString "which", Value.int (which : Int) tw) ∈ ρ ∧ (Str.ofString "turned", Value.ref lt) ∈ ρ) ∧ (∀ p ∈ obs, p ∈ o) ∧ (lx, tpO [Value.int (free : Int) tf, Value.int (xw : Int) tx']) ∈ o, ?_, ⟨⟨np, nsz, nf, na, nw, nt⟩, fun p hp => by walk_at "m", by walk_at "m"⟩, ?_, ?_⟩
    · rintro i ρ o ⟨_, _, h⟩ p hp
      rw [List.mem_singleton.mp hp]; exact h
    · rintro i ρ2 o2 v ib' hi hv' hib' ⟨⟨a1, a2, a3, a4, a5, a6⟩, ho2, hlx2⟩
      obtain ⟨xk, tk, rfl⟩ : ∃ xk tk, v = Value.int ((xk : Nat) : Int) tk := by
        have := List.mem_of_getElem? hv'
        rcases List.mem_cons.mp this with h | h
        · exact ⟨_, _, h⟩
        · exact ⟨_, _, List.mem_singleton.mp h⟩
      have hm2 := ho2 _ hm
      have hmt2 := ho2 _ hmt
      have ma2 := ho2 _ ma
      have md2 := ho2 _ md
      have hv2 := hv.mono ho2
      with_reducible refine Ex_cons (Ex_if (Ts_or (Ts_not (Ts_value (Ev_call (f := .ref 197) (g_ref _) (k_ref _) ?_)))))
      with_reducible refine Ag_cons (Ev_bin (Ev_name (v := .ref lp) (by walk_at "m") (Ev_list (Ag_cons (Ev_sub (Ev_name (v := .ref lt) (by walk_at "m") (Ev_name (v := .int (which : Int) tw) (by walk_at "m") (Tr_item (x := .ref aw) (by walk_at "m") hlt ?_ ?_ ?_ (Ag_nil ?_)))))))))
      · omega
      · omega
      · simpa using htw
      refine ⟨by show 1 ≤ _; decide, fun l1 hl1 => Tr_cat (vs := pv) (ws := [.ref aw]) (by walk_at "m") List.mem_cons_self hl (lsO'_is _) (by rw [hv.len]; show ps.length + 1 ≤ _; omega) fun r1 hr1 => ?_⟩
      with_reducible refine Ag_cons (Ev_name (v := .int (xk : Int) tk) (by walk_at "m") (Ag_nil (Tr_refused X List.mem_cons_self (lsO'_is _) (ps := ps ++ [(xw, bw)]) ?_ hlen1 hs1 (fun h => absurd h hb1) (Tr_bool ?_))))
      · exact Shs.snoc (a := aw) (d := dw) (hv2.mono fun p hp => by walk_at "m") (by walk_at "m") (by walk_at "m")
      show if (!true) = true then _ else _
      rw [if_neg (by decide)]
      with_reducible refine Ts_not (Ts_value (Ev_call (f := .ref 197) (g_ref _) (k_ref _) ?_))
      with_reducible refine Ag_cons (Ev_bin (Ev_list (Ag_cons (Ev_sub (Ev_name (v := .ref lt) (by walk_at "m") (Ev_name (v := .int (which : Int) tw) (by walk_at "m") (Tr_item (x := .ref aw) (by walk_at "m") hlt ?_ ?_ ?_ (Ag_nil ?_))))))))
      · omega
      · omega
      · simpa using htw
      refine ⟨by show 1 ≤ _; decide, fun l2 hl2 => ?_⟩
      with_reducible refine Ev_name (v := .ref lp) (by walk_at "m") ?_
      refine Tr_cat (vs := [.ref aw]) (ws := pv) List.mem_cons_self (by walk_at "m") (lsO'_is _) hl (by rw [hv.len]; show 1 + ps.length ≤ _; omega) fun r2 hr2 => ?_
      with_reducible refine Ag_cons (Ev_name (v := .int (xk : Int) tk) (by walk_at "m") (Ag_nil (Tr_refused X List.mem_cons_self (lsO'_is _) (ps := [(xw, bw)] ++ ps) ?_ hlen2 hs2 (fun h => absurd h hb2) (Tr_bool ?_))))
      · exact Shs.append (Shs.one (a := aw) (d := dw) (by walk_at "m") (by walk_at "m")) (hv2.mono fun p hp => by walk_at "m")
      show if (!true) = true then _ else _
      rw [if_neg (by decide)]
      refine Ex_nil (Ex_nil ⟨o2, ?_, ⟨by walk_at "m", by walk_at "m", by walk_at "m", by walk_at "m", by walk_at "m", by walk_at "m"⟩, ho2, hlx2⟩)
      repeat (first | exact .refl _ | refine .skip ?_)
    · rintro ρ2 o2 ⟨⟨a1, a2, a3, a4, a5, a6⟩, ho2, hlx2⟩
      exact ⟨rfl, ⟨a1, a2, a3, a4, a5⟩, ho2⟩
  · rintro ρ1 o1 ⟨⟨a1, a2, a3, a4, a5⟩, ho1⟩
    refine to28 (w := W.w) (by with_unfolding_all rfl) ?_
    exact lawG X a1 a2 a3 a4 a5 (ho1 _ hm) hl (hv.mono ho1) hlen hne hsz hsize hwh
end Mine
set_option maxRecDepth 100000
set_option maxHeartbeats 4000000
set_option Elab.async false
set_option linter.unusedVariables false
namespace Mine
open PySem PySem.W PySem.Spec PyProof.Rows PySem.Calls PySem.W.KBw

local macro_rules | `(tactic| walk_at "m") => `(tactic| first
  | assumption
  | with_reducible exact List.mem_cons_self
  | with_reducible exact setL_here
  | (with_reducible refine setL_there' ?_ (by dsimp only; decide +kernel); walk_at "m")
  | (with_reducible refine List.mem_cons_of_mem _ ?_; walk_at "m"))

theorem xt1_lt : ∀ r, r < 2 ^ 8 → xt 1 r < 2 ^ 8 := by decide +kernel
def gapN (xw y : Nat) (t p : Nat) : Nat := if p = xw then t else times (p ^^^ y) t 1
theorem gapN_lt {xw y t p : Nat} (h : t < 2 ^ 8) : gapN xw y t p < 2 ^ 8 := by
  unfold gapN; split
  · exact h
  · exact times_lt xt1_lt h
theorem gapF_lt {xw y : Nat} : ∀ (l : List Nat) (t : Nat), t < 2 ^ 8 → l.foldl (gapN xw y) t < 2 ^ 8
  | [], t, h => h
  | p :: l, t, h => gapF_lt l _ (gapN_lt h)
theorem ofBE_lt (b : Array UInt8) : ofBE b < 256 ^ b.size := by
  have h1 := KFB.fold_lt b.toList 0
  rw [Nat.zero_add, Nat.one_mul, Array.length_toList] at h1
  exact h1

theorem lawE {W : Wc} {he : Heap} {L : Addr} {A : Around} {ρ : Loc} {obs : Led} (X : LX W A L) {lp lk lt lq aw dw : Addr} {olp olk olt olq : Obj} {pv tv qv : List Value} {ps : List (Nat × Array UInt8)} {bw tb : Array UInt8} {size free any which xw due ones turn : Nat} {pls : List Nat} {ts tf ta tw tx tx' ub tt td to tu : Tok}
    (np : (Str.ofString "points", .ref lp) ∈ ρ) (nsz : (Str.ofString "size", .int (size : Int) ts) ∈ ρ) (nf : (Str.ofString "free", .int (free : Int) tf) ∈ ρ) (na : (Str.ofString "anywhere", .int (any : Int) ta) ∈ ρ) (nw : (Str.ofString "which", .int (which : Int) tw) ∈ ρ)
    (nk : (Str.ofString "kept", .ref lk) ∈ ρ) (nt : (Str.ofString "turned", .ref lt) ∈ ρ) (nq : (Str.ofString "places", .ref lq) ∈ ρ)
    (nto : (Str.ofString "told", .bytes tb tt) ∈ ρ) (ndu : (Str.ofString "due", .int (due : Int) td) ∈ ρ) (non : (Str.ofString "ones", .int (ones : Int) to) ∈ ρ) (ntu : (Str.ofString "turn", .int (turn : Int) tu) ∈ ρ)
    (hm : (lp, olp) ∈ obs) (hl : LsO olp pv) (hmk : (lk, olk) ∈ obs) (hlk : LsO olk pv) (hmt : (lt, olt) ∈ obs) (hlt : LsO olt tv) (hmq : (lq, olq) ∈ obs) (hlq : LsO olq qv)
    (htw : tv[which]? = some (.ref aw)) (ma : (aw, rsO (.int (xw : Int) tx) (.bytes bw ub) dw) ∈ obs) (md : (dw, dO) ∈ obs) (hbw : bw.size ≤ 100) (hxw : xw ∈ ps.map (·.1)) (hqw : qv[which]? = some (.int (xw : Int) tx'))
    (hv : Shs pv ps obs) (hlen : ps.length ≤ 50) (hne : 0 < ps.length) (hsz : ∀ p ∈ ps, p.2.size = size) (hsize : size ≤ 17) (hwh : which ≤ ps.length)
    (hna : NA qv pls) (hpl : pls.length ≤ 50) (hplt : ∀ p ∈ pls, p < 256) (hfr : free < 256) (hxlt : xw < 256) (htb : tb.size ≤ 17) (hdue : due < 2 ^ 200) (hones : ones < 2 ^ 200) (hturn : turn < 2 ^ 200)
    (hE : times (pls.foldl (gapN xw xw) 1) (ofBE tb ^^^ due) ones = times (pls.foldl (gapN xw free) 1) turn ones) :
    Ex ⟨W, he, envF W.w 202 L⟩ A Fls ρ obs (execs ((lawB W.w).drop 23) (envF W.w 202 L)) (fun fl _ _ => fl = .ret (.bool true)) := by
  have hroom := X.room
  refine from23 (by with_unfolding_all rfl) ?_
  have hql : qv.length = pls.length := hna.1
  have hwq : which < qv.length := (List.getElem?_eq_some_iff.mp hqw).1
  with_reducible refine Ex_cons (Ex_unpack2 X.hh (Ev_tuple (Ag_cons (En_int (i := 1) fun t1 => Ag_cons (En_int (i := 1) fun t2 => Ag_nil ⟨?_, fun l1 hl1 => ?_⟩)))))
  · show 2 ≤ _; decide
  refine ⟨l1, _, _, rfl, List.mem_cons_self, ?_⟩
  refine Ex_mid (fun ρ' o => ((∃ t, (Str.ofString "near", Value.int ((pls.foldl (gapN xw xw) 1 : Nat) : Int) t) ∈ ρ') ∧ (∃ t, (Str.ofString "far", Value.int ((pls.foldl (gapN xw free) 1 : Nat) : Int) t) ∈ ρ')) ∧ (∀ p ∈ ρ, p.1 ≠ Str.ofString "near" → p.1 ≠ Str.ofString "far" → p.1 ≠ Str.ofString "place" → p ∈ ρ') ∧ ∀ p ∈ obs, p ∈ o) ?_ ?_
  · with_reducible refine Ex_for (Ev_name (v := .ref lq) (by walk_at "m") (Tr_iter_list (by walk_at "m") hlq (fun it ib hit hib => ?_)))
    refine ⟨it, ib, _, LiP lq, _, _, _, rfl, rfl, nx_list (C := ⟨W, he, envF W.w 202 L⟩) X.hh hit hlq, hib, fun i ρ' o => ((∃ t, (Str.ofString "near", Value.int (((pls.take i).foldl (gapN xw xw) 1 : Nat) : Int) t) ∈ ρ') ∧ (∃ t, (Str.ofString "far", Value.int (((pls.take i).foldl (gapN xw free) 1 : Nat) : Int) t) ∈ ρ')) ∧ (∀ p ∈ ρ, p.1 ≠ Str.ofString "near" → p.1 ≠ Str.ofString "far" → p.1 ≠ Str.ofString "place" → p ∈ ρ') ∧ ∀ p ∈ obs, p ∈ o, ?_, ⟨⟨⟨t1, ?_⟩, ⟨t2, ?_⟩⟩, ?_, ?_⟩, ?_, ?_⟩
    · rintro i ρ' o ⟨_, _, h⟩ p hp
      rw [List.mem_singleton.mp hp]; exact h _ hmq
    · simp only [List.take_zero, List.foldl_nil]; walk_at "m"
    · simp only [List.take_zero, List.foldl_nil]; walk_at "m"
    · exact fun p hp h1 h2 h3 => setL_there (setL_there hp (by simpa using h1)) (by simpa using h2)
    · exact fun p hp => List.mem_cons_of_mem _ hp
    · rintro i ρ2 o2 v ib' hi hv' hib' ⟨⟨⟨tn, hn⟩, ⟨tg, hg⟩⟩, hρ2, ho2⟩
      obtain ⟨p1, t3, hp1, rfl⟩ := hna.val hv'
      have hp1lt : p1 < 256 := hplt _ (List.mem_of_getElem? hp1)
      have b1 := hρ2 _ nq (by dsimp only; decide +kernel) (by dsimp only; decide +kernel) (by dsimp only; decide +kernel)
      have b2 := hρ2 _ nw (by dsimp only; decide +kernel) (by dsimp only; decide +kernel) (by dsimp only; decide +kernel)
      have b3 := hρ2 _ nf (by dsimp only; decide +kernel) (by dsimp only; decide +kernel) (by dsimp only; decide +kernel)
      have hmq2 := ho2 _ hmq
      have hnear : (pls.take i).foldl (gapN xw xw) 1 < 2 ^ 8 := gapF_lt _ _ (by decide)
      have hfar : (pls.take i).foldl (gapN xw free) 1 < 2 ^ 8 := gapF_lt _ _ (by decide)
      have e1 : (pls.take (i + 1)).foldl (gapN xw xw) 1 = gapN xw xw ((pls.take i).foldl (gapN xw xw) 1) p1 := by rw [List.take_add_one, hp1]; simp
      have e2 : (pls.take (i + 1)).foldl (gapN xw free) 1 = gapN xw free ((pls.take i).foldl (gapN xw free) 1) p1 := by rw [List.take_add_one, hp1]; simp
      generalize (pls.take i).foldl (gapN xw xw) 1 = nN at hn hnear e1
      generalize (pls.take i).foldl (gapN xw free) 1 = fN at hg hfar e2
      with_reducible refine Ex_cons (Ex_if (Ts_cmp (Ev_name (v := .int (p1 : Int) t3) (by walk_at "m") (Ev_sub (Ev_name (v := .ref lq) (by walk_at "m") (Ev_name (v := .int (which : Int) tw) (by walk_at "m") (Tr_item (x := .int (xw : Int) tx') (by walk_at "m") hlq ?_ ?_ ?_ (Tn_ne (Tr_bool ?_)))))))))
      · omega
      · omega
      · simpa using hqw
      by_cases hx : p1 = xw
      · rw [if_neg (by simp [hx])]
        refine Ex_nil (Ex_nil ⟨o2, .refl _, ⟨⟨tn, ?_⟩, ⟨tg, ?_⟩⟩, ?_, ho2⟩)
        · first | (rw [e1, gapN, if_pos hx]; walk_at "m") | (dsimp only; rw [e1, gapN, if_pos hx]; walk_at "m")
        · first | (rw [e2, gapN, if_pos hx]; walk_at "m") | (dsimp only; rw [e2, gapN, if_pos hx]; walk_at "m")
        · exact fun p hp h1 h2 h3 => setL_there (hρ2 p hp h1 h2 h3) (by simpa using h3)
      · rw [if_pos (by simpa using hx)]
        with_reducible refine Ex_cons (Ex_assign (Ev_call (f := .ref 176) (g_times _) (k_times _) (Ag_cons (Ev_bin (Ev_name (v := .int (p1 : Int) t3) (by walk_at "m") (Ev_sub (Ev_name (v := .ref lq) (by walk_at "m") (Ev_name (v := .int (which : Int) tw) (by walk_at "m") (Tr_item (x := .int (xw : Int) tx') (by walk_at "m") hlq ?_ ?_ ?_ (Tn_xor fun t4 => Ag_cons (Ev_name (v := .int (nN : Int) tn) (by walk_at "m") (Ag_cons (En_int (i := 1) fun t5 => Ag_nil (Tr_times X ?_ ?_ ?_ fun t6 => ?_))))))))))))))
        · omega
        · omega
        · simpa using hqw
        · exact Nat.lt_trans (Nat.xor_lt_two_pow (n := 8) hp1lt hxlt) (by decide)
        · exact Nat.lt_trans hnear (by decide)
        · decide
        with_reducible refine Ex_cons (Ex_assign (Ev_call (f := .ref 176) (g_times _) (k_times _) (Ag_cons (Ev_bin (Ev_name (v := .int (p1 : Int) t3) (by walk_at "m") (Ev_name (v := .int (free : Int) tf) (by walk_at "m") (Tn_xor fun t7 => Ag_cons (Ev_name (v := .int (fN : Int) tg) (by walk_at "m") (Ag_cons (En_int (i := 1) fun t8 => Ag_nil (Tr_times X ?_ ?_ ?_ fun t9 => ?_)))))))))))
        · exact Nat.lt_trans (Nat.xor_lt_two_pow (n := 8) hp1lt hfr) (by decide)
        · exact Nat.lt_trans hfar (by decide)
        · decide
        refine Ex_nil (Ex_nil ⟨o2, .refl _, ⟨⟨t6, ?_⟩, ⟨t9, ?_⟩⟩, ?_, ho2⟩)
        · first | (rw [e1, gapN, if_neg hx]; walk_at "m") | (dsimp only; rw [e1, gapN, if_neg hx]; walk_at "m")
        · first | (rw [e2, gapN, if_neg hx]; walk_at "m") | (dsimp only; rw [e2, gapN, if_neg hx]; walk_at "m")
        · exact fun p hp h1 h2 h3 => setL_there (setL_there (setL_there (hρ2 p hp h1 h2 h3) (by simpa using h3)) (by simpa using h1)) (by simpa using h2)
    · rintro ρ2 o2 ⟨⟨⟨tn, hn⟩, ⟨tg, hg⟩⟩, hρ2, ho2⟩
      rw [hql, List.take_length] at hn hg
      exact ⟨rfl, ⟨⟨tn, hn⟩, ⟨tg, hg⟩⟩, hρ2, ho2⟩
  · rintro ρ1 o1 ⟨⟨⟨tn, hn⟩, ⟨tg, hg⟩⟩, hρ1, ho1⟩
    have up : ∀ {x : Str} {v : Value}, (x, v) ∈ ρ → x ≠ Str.ofString "near" → x ≠ Str.ofString "far" → x ≠ Str.ofString "place" → (x, v) ∈ ρ1 := fun h a b c => hρ1 _ h a b c
    have np1 := up np (by decide +kernel) (by decide +kernel) (by decide +kernel)
    have nsz1 := up nsz (by decide +kernel) (by decide +kernel) (by decide +kernel)
    have nf1 := up nf (by decide +kernel) (by decide +kernel) (by decide +kernel)
    have na1 := up na (by decide +kernel) (by decide +kernel) (by decide +kernel)
    have nw1 := up nw (by decide +kernel) (by decide +kernel) (by decide +kernel)
    have nk1 := up nk (by decide +kernel) (by decide +kernel) (by decide +kernel)
    have nt1 := up nt (by decide +kernel) (by decide +kernel) (by decide +kernel)
    have nq1 := up nq (by decide +kernel) (by decide +kernel) (by decide +kernel)
    have nto1 := up nto (by decide +kernel) (by decide +kernel) (by decide +kernel)
    have ndu1 := up ndu (by decide +kernel) (by decide +kernel) (by decide +kernel)
    have non1 := up non (by decide +kernel) (by decide +kernel) (by decide +kernel)
    have ntu1 := up ntu (by decide +kernel) (by decide +kernel) (by decide +kernel)
    have hnear : pls.foldl (gapN xw xw) 1 < 2 ^ 8 := gapF_lt _ _ (by decide)
    have hfar : pls.foldl (gapN xw free) 1 < 2 ^ 8 := gapF_lt _ _ (by decide)
    generalize pls.foldl (gapN xw xw) 1 = nN at hn hnear hE
    generalize pls.foldl (gapN xw free) 1 = fN at hg hfar hE
    have htbl : ofBE tb < 2 ^ 200 := Nat.lt_of_lt_of_le (ofBE_lt tb) (Nat.le_trans (Nat.pow_le_pow_right (by decide) htb) (by decide +kernel))
    with_reducible refine Ex_cons (Ex_if (Ts_cmp (Ev_call (f := .ref 176) (g_times _) (k_times _) (Ag_cons (Ev_name (v := .int (nN : Int) tn) (by walk_at "m") (Ag_cons (Ev_bin (Ev_frombytes (Ev_bi b_int ⟨rfl, fun lb => ?_⟩)))))))))
    with_reducible refine Ag_cons (Ev_name (v := .bytes tb tt) (by walk_at "m") (Ag_cons (Ev_str fun t1 => Ag_nil ?_)))
    refine ⟨tb, tt, t1, rfl, by omega, List.mem_cons_self, fun t2 => ?_⟩
    with_reducible refine Ev_name (v := .int (due : Int) td) (by walk_at "m") (Tn_xor fun t3 => Ag_cons (Ev_name (v := .int (ones : Int) to) (by walk_at "m") (Ag_nil (Tr_times X ?_ ?_ ?_ fun t4 => ?_))))
    · exact Nat.lt_trans hnear (by decide)
    · exact Nat.xor_lt_two_pow htbl hdue
    · exact hones
    with_reducible refine Ev_call (f := .ref 176) (g_times _) (k_times _) (Ag_cons (Ev_name (v := .int (fN : Int) tg) (by walk_at "m") (Ag_cons (Ev_name (v := .int (turn : Int) tu) (by walk_at "m") (Ag_cons (Ev_name (v := .int (ones : Int) to) (by walk_at "m") (Ag_nil (Tr_times X ?_ ?_ ?_ fun t5 => Tn_ne (Tr_bool ?_)))))))))
    · exact Nat.lt_trans hfar (by decide)
    · exact hturn
    · exact hones
    rw [if_neg (by simp [hE])]
    refine Ex_nil ?_
    refine to26 (w := W.w) (by with_unfolding_all rfl) ?_
    exact lawF X np1 nsz1 nf1 na1 nw1 nk1 nt1 nq1 (by have := ho1 _ hm; walk_at "m") hl (by have := ho1 _ hmk; walk_at "m") hlk (by have := ho1 _ hmt; walk_at "m") hlt (by have := ho1 _ hmq; walk_at "m") hlq htw (by have := ho1 _ ma; walk_at "m") (by have := ho1 _ md; walk_at "m") hbw hxw hqw (hv.mono fun p hp => by have := ho1 _ hp; walk_at "m") hlen hne hsz hsize hwh
end Mine
set_option maxRecDepth 100000
set_option maxHeartbeats 4000000
set_option Elab.async false
set_option linter.unusedVariables false
namespace Mine
open PySem PySem.W PySem.Spec PyProof.Rows PySem.Calls PySem.W.KBw

local macro_rules | `(tactic| walk_at "m") => `(tactic| first
  | assumption
  | with_reducible exact List.mem_cons_self
  | with_reducible exact setL_here
  | (with_reducible refine setL_there' ?_ (by dsimp only; decide +kernel); walk_at "m")
  | (with_reducible refine List.mem_cons_of_mem _ ?_; walk_at "m"))

theorem Shs.set {vs : List Value} {ps : List (Nat × Array UInt8)} {obs : Led} {a d : Addr} {x k : Nat} {b : Array UInt8} {t u : Tok} (h : Shs vs ps obs) (h1 : (a, rsO (.int (x : Int) t) (.bytes b u) d) ∈ obs) (h2 : (d, dO) ∈ obs) : Shs (vs.set k (.ref a)) (ps.set k (x, b)) obs :=
  ⟨by simp [h.len], fun i p hp => by
    rw [List.getElem?_set] at hp
    split at hp
    · rename_i e
      subst e
      split at hp
      · rename_i hk
        cases hp
        refine ⟨a, d, t, u, ?_, h1, h2⟩
        rw [List.getElem?_set, if_pos rfl, if_pos (by rw [h.len]; exact hk)]
      · cases hp
    · rename_i e
      obtain ⟨a', d', t', u', e', r⟩ := h.at_ i p hp
      exact ⟨a', d', t', u', by rw [List.getElem?_set, if_neg e]; exact e', r⟩⟩

theorem lawD {W : Wc} {he : Heap} {L : Addr} {A : Around} {ρ : Loc} {obs : Led} (X : LX W A L) {lp lk lq : Addr} {olp olk olq : Obj} {pv qv : List Value} {ps : List (Nat × Array UInt8)} {bO : Array UInt8} {size free any which xw due ones turn : Nat} {pls : List Nat} {ts tf ta tw tx' td to tu : Tok}
    (np : (Str.ofString "points", .ref lp) ∈ ρ) (nsz : (Str.ofString "size", .int (size : Int) ts) ∈ ρ) (nf : (Str.ofString "free", .int (free : Int) tf) ∈ ρ) (na : (Str.ofString "anywhere", .int (any : Int) ta) ∈ ρ) (nw : (Str.ofString "which", .int (which : Int) tw) ∈ ρ)
    (nk : (Str.ofString "kept", .ref lk) ∈ ρ) (nq : (Str.ofString "places", .ref lq) ∈ ρ)
    (ndu : (Str.ofString "due", .int (due : Int) td) ∈ ρ) (non : (Str.ofString "ones", .int (ones : Int) to) ∈ ρ) (ntu : (Str.ofString "turn", .int (turn : Int) tu) ∈ ρ)
    (hm : (lp, olp) ∈ obs) (hl : LsO olp pv) (hmk : (lk, olk) ∈ obs) (hlk : LsO olk pv) (hmq : (lq, olq) ∈ obs) (hlq : LsO olq qv)
    (hps : ps[which]? = some (xw, bO)) (hqw : qv[which]? = some (.int (xw : Int) tx'))
    (hv : Shs pv ps obs) (hlen : ps.length ≤ 50) (hsz : ∀ p ∈ ps, p.2.size = size) (hsize : size ≤ 17)
    (hna : NA qv pls) (hpl : pls.length ≤ 50) (hplt : ∀ p ∈ pls, p < 256) (hfr : free < 256) (hxlt : xw < 256) (hdue : due < 2 ^ 200) (hones : ones < 2 ^ 200) (hturn : turn < 2 ^ 200)
    (hlow : ofBE bO ^^^ turn < 256 ^ size) (hp256 : ∀ p ∈ ps, p.1 < 256)
    (hg : Gd (ps.set which (xw, beA size (ofBE bO ^^^ turn))) size)
    (hD1 : interpA (ps.set which (xw, beA size (ofBE bO ^^^ turn))) xw size = beA size (ofBE bO ^^^ turn))
    (hD2 : (interpA (ps.set which (xw, beA size (ofBE bO ^^^ turn))) free size).size = size)
    (hE : times (pls.foldl (gapN xw xw) 1) (ofBE (interpA (ps.set which (xw, beA size (ofBE bO ^^^ turn))) free size) ^^^ due) ones = times (pls.foldl (gapN xw free) 1) turn ones) :
    Ex ⟨W, he, envF W.w 202 L⟩ A Fls ρ obs (execs ((lawB W.w).drop 18) (envF W.w 202 L)) (fun fl _ _ => fl = .ret (.bool true)) := by
  have hroom := X.room
  have hwp : which < ps.length := (List.getElem?_eq_some_iff.mp hps).1
  have hwv : which < pv.length := by rw [hv.len]; exact hwp
  have hwq : which < qv.length := (List.getElem?_eq_some_iff.mp hqw).1
  have hql : qv.length = pls.length := hna.1
  obtain ⟨aO, dO', tO, uO, eO, mO, mO'⟩ := hv.at_ which _ hps
  have hbO : bO.size = size := hsz _ (List.mem_of_getElem? hps)
  refine from18 (by with_unfolding_all rfl) ?_
  with_reducible refine Ex_cons (Ex_assign (Ev_callT b_list (Ag_cons (Ev_name (v := .ref lp) (by walk_at "m") (Ag_nil (Tr_copy (by walk_at "m") hl (by rw [hv.len]; omega) fun lt n1 hlt => ?_))))))
  with_reducible refine Ex_cons (Ex_setitem (Ev_call (f := .ref 145) (g_rs _) (k_rs _) (Ag_cons (Ev_sub (Ev_name (v := .ref lq) (by walk_at "m") (Ev_name (v := .int (which : Int) tw) (by walk_at "m") (Tr_item (x := .int (xw : Int) tx') (by walk_at "m") hlq ?_ ?_ ?_ (Ag_cons (Ev_tobytes (x := ofBE bO ^^^ turn) (k := size) ?_ hlow (Ev_bin (Ev_frombytes (Ev_bi b_int ⟨rfl, fun lb => ?_⟩))))))))))))
  · omega
  · omega
  · simpa using hqw
  · omega
  with_reducible refine Ag_cons (Ev_attr (Ev_sub (Ev_name (v := .ref lp) (by walk_at "m") (Ev_name (v := .int (which : Int) tw) (by walk_at "m") (Tr_item (x := .ref aO) (by walk_at "m") hl ?_ ?_ ?_ (Tr_getd (by walk_at "m") (by walk_at "m") ?_ (Ag_cons (Ev_str fun t1 => Ag_nil ?_))))))))
  · omega
  · omega
  · simpa using eO
  · omega
  refine ⟨bO, uO, t1, rfl, by omega, List.mem_cons_self, fun t2 => ?_⟩
  with_reducible refine Ev_name (v := .int (turn : Int) tu) (by walk_at "m") (Tn_xor fun t3 => ⟨t3, rfl, ?_⟩)
  with_reducible refine Ag_cons (Ev_name (v := .int (size : Int) ts) (by walk_at "m") (Ag_cons (Ev_str fun t4 => Ag_nil ?_)))
  refine ⟨ts, t4, rfl, fun t5 => ?_⟩
  with_reducible refine Ag_nil (Tr_mk ?_ fun an dn han hdn => ?_)
  · omega
  with_reducible refine Ev_name (v := .ref lt) (by walk_at "m") (Ev_name (v := .int (which : Int) tw) (by walk_at "m") ?_)
  refine ⟨lt, lsO pv n1, pv, which, tw, (an, rsO (.int (xw : Int) tx') (.bytes (beA size (ofBE bO ^^^ turn)) t5) dn) :: (dn, dO) :: (lb, KFB.bound) :: obs, rfl, rfl, ⟨[], ?_⟩, lsO_is pv n1, hwv, by rw [hv.len]; omega, hlt, fun ol' hol' => ?_⟩
  · rw [List.append_nil]
    exact (List.perm_middle (l₁ := [(an, rsO (.int (xw : Int) tx') (.bytes (beA size (ofBE bO ^^^ turn)) t5) dn), (dn, dO), (lb, KFB.bound)])).symm
  generalize hb' : beA size (ofBE bO ^^^ turn) = b' at hg hD1 hD2 hE ⊢
  have hbs : b'.size = size := by rw [← hb', beA_size]
  have htw : (pv.set which (Value.ref an))[which]? = some (.ref an) := by rw [List.getElem?_set, if_pos rfl, if_pos hwv]
  have hlt2 : (ps.set which (xw, b')).length ≤ 100 := by rw [List.length_set]; omega
  have hp2 : ∀ p ∈ ps.set which (xw, b'), p.1 < 256 := fun p hp => by
    rcases List.mem_or_eq_of_mem_set hp with h | h
    · exact hp256 p h
    · rw [h]; exact hxlt
  have hv2 : Shs (pv.set which (.ref an)) (ps.set which (xw, b')) ((lt, ol') :: (an, rsO (.int (xw : Int) tx') (.bytes b' t5) dn) :: (dn, dO) :: (lb, KFB.bound) :: obs) :=
    Shs.set (hv.mono fun p hp => by walk_at "m") (a := an) (d := dn) (by walk_at "m") (by walk_at "m")
  with_reducible refine Ex_cons (Ex_if (Ts_not (Ts_value (Ev_call (f := .ref 190) (g_same _) (k_same _) (Ag_cons (Ev_call (f := .ref 155) (g_itp _) (k_itp _) (Ag_cons (Ev_name (v := .ref lt) (by walk_at "m") (Ag_cons (Ev_sub (Ev_name (v := .ref lq) (by walk_at "m") (Ev_name (v := .int (which : Int) tw) (by walk_at "m") (Tr_item (x := .int (xw : Int) tx') (by walk_at "m") hlq ?_ ?_ ?_ (Ag_nil (Tr_interp X (by walk_at "m") hol' hv2 hp2 hxlt hlt2 ?_ hg fun t6 => ?_)))))))))))))))
  · omega
  · omega
  · simpa using hqw
  · omega
  with_reducible refine Ag_cons (Ev_attr (Ev_sub (Ev_name (v := .ref lt) (by walk_at "m") (Ev_name (v := .int (which : Int) tw) (by walk_at "m") (Tr_item (x := .ref an) (by walk_at "m") hol' ?_ ?_ ?_ (Tr_getd (by walk_at "m") (by walk_at "m") ?_ (Ag_nil (Tr_same X (Tr_bool ?_)))))))))
  · omega
  · omega
  · simpa using htw
  · omega
  rw [hD1, beq_self_eq_true, if_neg (by decide)]
  refine Ex_nil ?_
  with_reducible refine Ex_cons (Ex_assign (Ev_call (f := .ref 155) (g_itp _) (k_itp _) (Ag_cons (Ev_name (v := .ref lt) (by walk_at "m") (Ag_cons (Ev_name (v := .int (free : Int) tf) (by walk_at "m") (Ag_nil (Tr_interp X (by walk_at "m") hol' hv2 hp2 hfr hlt2 ?_ hg fun t7 => ?_))))))))
  · omega
  generalize interpA (ps.set which (xw, b')) free size = tb at hD2 hE ⊢
  with_reducible refine Ex_cons (Ex_if (Ts_or (Ts_not (Ts_value (Ev_callB b_isi (Ag_cons (Ev_name (v := .bytes tb t7) (by walk_at "m") (Ag_cons (Ev_bi b_bytes' (Ag_nil (Tr_isi_bytes (Tr_bool ?_))))))))))))
  show if (!true) = true then _ else _
  rw [if_neg (by decide)]
  with_reducible refine Ts_cmp (Ev_callB b_len (Ag_cons (Ev_name (v := .bytes tb t7) (by walk_at "m") (Ag_nil (Tr_len_bytes ?_ fun t8 => Ev_name (v := .int (size : Int) ts) (by walk_at "m") (Tn_ne (Tr_bool ?_)))))))
  · omega
  rw [if_neg (by simp [hD2])]
  refine Ex_nil ?_
  refine to23 (w := W.w) (by with_unfolding_all rfl) ?_
  have hxw : xw ∈ ps.map (·.1) := List.mem_map.mpr ⟨_, List.mem_of_getElem? hps, rfl⟩
  exact lawE X (aw := an) (dw := dn) (bw := b') (tb := tb) (xw := xw) (by walk_at "m") (by walk_at "m") (by walk_at "m") (by walk_at "m") (by walk_at "m") (by walk_at "m") (by walk_at "m") (by walk_at "m") (by walk_at "m") (by walk_at "m") (by walk_at "m") (by walk_at "m")
    (by walk_at "m") hl (by walk_at "m") hlk (by walk_at "m") hol' (by walk_at "m") hlq htw (by walk_at "m") (by walk_at "m") (by omega) hxw hqw (hv.mono fun p hp => by walk_at "m") hlen (by omega) hsz hsize (by omega) hna hpl hplt hfr hxlt (by omega) hdue hones hturn hE
end Mine
set_option maxRecDepth 100000
set_option maxHeartbeats 4000000
set_option Elab.async false
set_option linter.unusedVariables false
namespace Mine
open PySem PySem.W PySem.Spec PyProof.Rows PySem.Calls PySem.W.KBw

local macro_rules | `(tactic| walk_at "m") => `(tactic| first
  | assumption
  | with_reducible exact List.mem_cons_self
  | with_reducible exact setL_here
  | (with_reducible refine setL_there' ?_ (by dsimp only; decide +kernel); walk_at "m")
  | (with_reducible refine List.mem_cons_of_mem _ ?_; walk_at "m"))

theorem p2_256 (n : Nat) : 2 ^ (8 * n) = 256 ^ n := by rw [Nat.pow_mul]
theorem lawAt_lt {x o k : Nat} {rs : List Nat} (hc : ∀ r, r < 2 ^ k → xt o r < 2 ^ k) (hr : ∀ r ∈ rs, r < 2 ^ k) : lawAt x o rs < 2 ^ k := by
  unfold lawAt
  have go : ∀ (l : List Nat) (t : Nat), t < 2 ^ k → (∀ r ∈ l, r < 2 ^ k) → l.foldl (fun t r => times x t o ^^^ r) t < 2 ^ k := by
    intro l
    induction l with
    | nil => intro t h _; exact h
    | cons a l ih =>
      intro t h hl
      exact ih _ (Nat.xor_lt_two_pow (times_lt hc h) (hl a List.mem_cons_self)) fun r hr => hl r (List.mem_cons_of_mem _ hr)
  refine go _ _ ?_ fun r h => hr r (List.mem_of_mem_tail h)
  cases rs with
  | nil => exact Nat.two_pow_pos k
  | cons a l => exact hr a List.mem_cons_self

theorem find_at {l : List (Nat × Array UInt8)} : ∀ {i : Nat} {p : Nat × Array UInt8}, (l.map (·.1)).Nodup → l[i]? = some p → l.find? (fun q => q.1 == p.1) = some p := by
  induction l with
  | nil => intro i p _ h; simp at h
  | cons a l ih =>
    intro i p hn h
    rw [List.map_cons, List.nodup_cons] at hn
    cases i with
    | zero =>
      rw [List.getElem?_cons_zero] at h
      cases h
      rw [List.find?_cons, beq_self_eq_true]
    | succ i =>
      rw [List.getElem?_cons_succ] at h
      have hne : (a.1 == p.1) = false := by
        rw [beq_eq_false_iff_ne]
        exact fun e => hn.1 (List.mem_map.mpr ⟨p, List.mem_of_getElem? h, e.symm⟩)
      rw [List.find?_cons, hne]
      exact ih hn.2 h

/-- the points of the polynomial -/
def ptsOf (size ones : Nat) (rws pls : List Nat) : List (Nat × Array UInt8) := pls.map fun p => (p, beA size (lawAt p ones rws))

theorem lawC {W : Wc} {he : Heap} {L : Addr} {A : Around} {ρ : Loc} {obs : Led} (X : LX W A L) {lp lq lr : Addr} {olp olq olr : Obj} {pv qv rv : List Value} {size free any which ones turn : Nat} {pls rws : List Nat} {ts tf ta tw to tu : Tok}
    (np : (Str.ofString "points", .ref lp) ∈ ρ) (nsz : (Str.ofString "size", .int (size : Int) ts) ∈ ρ) (nf : (Str.ofString "free", .int (free : Int) tf) ∈ ρ) (na : (Str.ofString "anywhere", .int (any : Int) ta) ∈ ρ) (nw : (Str.ofString "which", .int (which : Int) tw) ∈ ρ)
    (nq : (Str.ofString "places", .ref lq) ∈ ρ) (nr : (Str.ofString "rows", .ref lr) ∈ ρ)
    (non : (Str.ofString "ones", .int (ones : Int) to) ∈ ρ) (ntu : (Str.ofString "turn", .int (turn : Int) tu) ∈ ρ)
    (hm : (lp, olp) ∈ obs) (hl : LsO olp pv) (hmq : (lq, olq) ∈ obs) (hlq : LsO olq qv) (hmr : (lr, olr) ∈ obs) (hlr : LsO olr rv)
    (hv : Shs pv (ptsOf size ones rws pls) obs) (hsize : size ≤ 17) (hna : NA qv pls) (hnr : NA rv rws) (hrl : rws.length ≤ 50) (hrn : 0 < rws.length) (hrlt : ∀ r ∈ rws, r < 2 ^ (8 * size)) (hpl : pls.length ≤ 50) (hplt : ∀ p ∈ pls, p < 256) (hwh : which < pls.length)
    (hfr : free < 256) (hany : any < 256) (hones : ones < 2 ^ 200) (hturn : turn < 256 ^ size) (hc : ∀ r, r < 2 ^ (8 * size) → xt ones r < 2 ^ (8 * size))
    (hnd : pls.Nodup)
    (hI : ∀ x, x < 256 → interpA (ptsOf size ones rws pls) x size = beA size (lawAt x ones rws))
    (hD2 : ∀ b, b.size = size → (interpA ((ptsOf size ones rws pls).set which (pls[which]!, b)) free size).size = size)
    (hE : times (pls.foldl (gapN pls[which]! pls[which]!) 1) (ofBE (interpA ((ptsOf size ones rws pls).set which (pls[which]!, beA size (ofBE (beA size (lawAt pls[which]! ones rws)) ^^^ turn))) free size) ^^^ lawAt free ones rws) ones = times (pls.foldl (gapN pls[which]! free) 1) turn ones) :
    Ex ⟨W, he, envF W.w 202 L⟩ A Fls ρ obs (execs ((lawB W.w).drop 13) (envF W.w 202 L)) (fun fl _ _ => fl = .ret (.bool true)) := by
  have hroom := X.room
  have hql : qv.length = pls.length := hna.1
  have hpsl : (ptsOf size ones rws pls).length = pls.length := List.length_map _
  have hget : pls[which]? = some pls[which]! := by rw [List.getElem!_eq_getElem?_getD, List.getElem?_eq_getElem hwh]; rfl
  have hxlt : pls[which]! < 256 := hplt _ (List.mem_of_getElem? hget)
  generalize hxw : pls[which]! = xw at hget hxlt hD2 hE
  obtain ⟨tx', hqw⟩ := hna.2 which xw hget
  have hps : (ptsOf size ones rws pls)[which]? = some (xw, beA size (lawAt xw ones rws)) := by unfold ptsOf; rw [List.getElem?_map, hget]; rfl
  have hsz : ∀ p ∈ ptsOf size ones rws pls, p.2.size = size := fun p hp => by
    obtain ⟨q, _, rfl⟩ := List.mem_map.mp hp
    exact beA_size _ _
  have hp256 : ∀ p ∈ ptsOf size ones rws pls, p.1 < 256 := fun p hp => by
    obtain ⟨q, hq, rfl⟩ := List.mem_map.mp hp
    exact hplt q hq
  have hfst : (ptsOf size ones rws pls).map (·.1) = pls := by unfold ptsOf; rw [List.map_map]; exact List.map_id' _
  have hg0 : Gd (ptsOf size ones rws pls) size := ⟨fun e => by rw [e] at hpsl; simp at hpsl; omega, by rw [hfst]; exact hnd, hsz⟩
  have hk8 : (2 : Nat) ^ (8 * size) ≤ 2 ^ 200 := Nat.pow_le_pow_right (by decide) (by omega)
  have hat : ∀ x, lawAt x ones rws < 2 ^ (8 * size) := fun x => lawAt_lt hc hrlt
  have hlenp : (ptsOf size ones rws pls).length ≤ 100 := by omega
  generalize hpsg : ptsOf size ones rws pls = ps at hv hI hD2 hE hpsl hps hsz hp256 hfst hg0 hlenp
  obtain ⟨aO, dOa, tO, uO, eO, mO, mO'⟩ := hv.at_ which _ hps
  refine from13 (by with_unfolding_all rfl) ?_
  with_reducible refine Ex_cons (Ex_assign (Ev_callT b_list (Ag_cons (Ev_name (v := .ref lp) (by walk_at "m") (Ag_nil (Tr_copy (by walk_at "m") hl (by rw [hv.len]; omega) fun lk n1 hlk => ?_))))))
  with_reducible refine Ex_cons (Ex_assign (Ev_call (f := .ref 183) (g_at _) (k_at _) (Ag_cons (Ev_name (v := .ref lr) (by walk_at "m") (Ag_cons (Ev_name (v := .int (free : Int) tf) (by walk_at "m") (Ag_cons (Ev_name (v := .int (ones : Int) to) (by walk_at "m") (Ag_nil (Tr_at X (by walk_at "m") hlr hnr hrn ?_ ?_ (k := 8 * size) ?_ hones hc hrlt fun td => ?_))))))))))
  · omega
  · omega
  · omega
  have b256 : ∀ x, lawAt x ones rws < 256 ^ size := fun x => by rw [← p2_256]; exact hat x
  have hv1 : Shs pv ps ((lk, lsO pv n1) :: obs) := hv.mono fun p hp => by walk_at "m"
  -- at the free place
  with_reducible refine Ex_cons (Ex_if (Ts_not (Ts_value (Ev_call (f := .ref 190) (g_same _) (k_same _) (Ag_cons (Ev_call (f := .ref 155) (g_itp _) (k_itp _) (Ag_cons (Ev_name (v := .ref lp) (by walk_at "m") (Ag_cons (Ev_name (v := .int (free : Int) tf) (by walk_at "m") (Ag_nil (Tr_interp X (by walk_at "m") hl hv1 hp256 hfr hlenp ?_ hg0 fun t1 => ?_))))))))))))
  · omega
  with_reducible refine Ag_cons (Ev_tobytes (x := lawAt free ones rws) (k := size) ?_ (b256 _) (Ev_name (v := .int (lawAt free ones rws : Nat) td) (by walk_at "m") ⟨td, rfl, ?_⟩))
  · omega
  with_reducible refine Ag_cons (Ev_name (v := .int (size : Int) ts) (by walk_at "m") (Ag_cons (Ev_str fun t2 => Ag_nil ?_)))
  refine ⟨ts, t2, rfl, fun t3 => ?_⟩
  with_reducible refine Ag_nil (Tr_same X (Tr_bool ?_))
  rw [hI _ hfr, beq_self_eq_true, if_neg (by decide)]
  refine Ex_nil ?_
  -- at any place
  with_reducible refine Ex_cons (Ex_if (Ts_not (Ts_value (Ev_call (f := .ref 190) (g_same _) (k_same _) (Ag_cons (Ev_call (f := .ref 155) (g_itp _) (k_itp _) (Ag_cons (Ev_name (v := .ref lp) (by walk_at "m") (Ag_cons (Ev_name (v := .int (any : Int) ta) (by walk_at "m") (Ag_nil (Tr_interp X (by walk_at "m") hl hv1 hp256 hany hlenp ?_ hg0 fun t4 => ?_))))))))))))
  · omega
  with_reducible refine Ag_cons (Ev_tobytes (x := lawAt any ones rws) (k := size) ?_ (b256 _) (Ev_call (f := .ref 183) (g_at _) (k_at _) (Ag_cons (Ev_name (v := .ref lr) (by walk_at "m") (Ag_cons (Ev_name (v := .int (any : Int) ta) (by walk_at "m") (Ag_cons (Ev_name (v := .int (ones : Int) to) (by walk_at "m") (Ag_nil (Tr_at X (by walk_at "m") hlr hnr hrn ?_ ?_ (k := 8 * size) ?_ hones hc hrlt fun t5 => ?_))))))))))
  · omega
  · omega
  · omega
  · omega
  refine ⟨t5, rfl, ?_⟩
  with_reducible refine Ag_cons (Ev_name (v := .int (size : Int) ts) (by walk_at "m") (Ag_cons (Ev_str fun t6 => Ag_nil ?_)))
  refine ⟨ts, t6, rfl, fun t7 => ?_⟩
  with_reducible refine Ag_nil (Tr_same X (Tr_bool ?_))
  rw [hI _ hany, beq_self_eq_true, if_neg (by decide)]
  refine Ex_nil ?_
  -- at a point's own place
  with_reducible refine Ex_cons (Ex_if (Ts_not (Ts_value (Ev_call (f := .ref 190) (g_same _) (k_same _) (Ag_cons (Ev_call (f := .ref 155) (g_itp _) (k_itp _) (Ag_cons (Ev_name (v := .ref lp) (by walk_at "m") (Ag_cons (Ev_sub (Ev_name (v := .ref lq) (by walk_at "m") (Ev_name (v := .int (which : Int) tw) (by walk_at "m") (Tr_item (x := .int (xw : Int) tx') (by walk_at "m") hlq ?_ ?_ ?_ (Ag_nil (Tr_interp X (by walk_at "m") hl hv1 hp256 hxlt hlenp ?_ hg0 fun t8 => ?_)))))))))))))))
  · omega
  · omega
  · simpa using hqw
  · omega
  with_reducible refine Ag_cons (Ev_attr (Ev_sub (Ev_name (v := .ref lp) (by walk_at "m") (Ev_name (v := .int (which : Int) tw) (by walk_at "m") (Tr_item (x := .ref aO) (by walk_at "m") hl ?_ ?_ ?_ (Tr_getd (by walk_at "m") (by walk_at "m") ?_ (Ag_nil (Tr_same X (Tr_bool ?_)))))))))
  · omega
  · omega
  · simpa using eO
  · omega
  rw [hI _ hxlt, beq_self_eq_true, if_neg (by decide)]
  refine Ex_nil ?_
  refine to18 (w := W.w) (by with_unfolding_all rfl) ?_
  have hofl : ofBE (beA size (lawAt xw ones rws)) ^^^ turn < 256 ^ size := by
    rw [← p2_256]
    refine Nat.xor_lt_two_pow ?_ (by rw [p2_256]; exact hturn)
    have := ofBE_lt (beA size (lawAt xw ones rws))
    rw [beA_size] at this
    rw [p2_256]; exact this
  have hfst2 : ∀ b, (ps.set which (xw, b)).map (·.1) = pls := fun b => by
    rw [List.map_set, hfst]
    exact List.ext_getElem? fun i => by
      rw [List.getElem?_set]
      split
      · rename_i e; subst e; first | (rw [if_pos hwh, hget]) | (rw [hget])
      · rfl
  have hg1 : ∀ b : Array UInt8, b.size = size → Gd (ps.set which (xw, b)) size := fun b hb => ⟨fun e => by
      have := congrArg List.length e
      rw [List.length_set, hpsl] at this
      have h0 : pls.length = 0 := this
      omega, by rw [hfst2]; exact hnd, fun p hp => by
      rcases List.mem_or_eq_of_mem_set hp with h | h
      · exact hsz p h
      · rw [h]; exact hb⟩
  have hD1 : ∀ b : Array UInt8, interpA (ps.set which (xw, b)) xw size = b := fun b => by
    unfold interpA
    rw [find_at (i := which) (p := (xw, b)) (by rw [hfst2]; exact hnd) (by rw [List.getElem?_set, if_pos rfl, if_pos (by omega)])]
  have ht200 : turn < 2 ^ 200 := Nat.lt_of_lt_of_le hturn (by rw [← p2_256]; exact hk8)
  exact lawD X (size := size) (by walk_at "m") (by walk_at "m") (by walk_at "m") (by walk_at "m") (by walk_at "m") (by walk_at "m") (by walk_at "m") (by walk_at "m") (by walk_at "m") (by walk_at "m")
    (by walk_at "m") hl (by walk_at "m") (lsO_is pv n1) (by walk_at "m") hlq hps hqw hv1 (by omega) hsz hsize hna hpl hplt hfr hxlt (Nat.lt_of_lt_of_le (hat free) hk8) hones ht200 hofl hp256 (hg1 _ (beA_size _ _)) (hD1 _) (hD2 _ (beA_size _ _)) hE
end Mine
set_option maxRecDepth 100000
set_option maxHeartbeats 4000000
set_option Elab.async false
set_option linter.unusedVariables false
namespace Mine
open PySem PySem.W PySem.Spec PyProof.Rows PySem.Calls PySem.W.KBw

/-- the place that is free: a walk round 0..255 comes to one -/
theorem sub_len : ∀ (l m : List Nat), l.Nodup → (∀ x ∈ l, x ∈ m) → l.length ≤ m.length
  | [], _, _, _ => Nat.zero_le _
  | a :: l, m, hn, hs => by
    rw [List.nodup_cons] at hn
    have ha := hs a List.mem_cons_self
    have := sub_len l (m.erase a) hn.2 fun x hx => (List.mem_erase_of_ne (a := x) (b := a) (fun e => hn.1 (by rw [← e]; exact hx))).mpr (hs x (List.mem_cons_of_mem _ hx))
    rw [List.length_erase_of_mem ha] at this
    have := List.length_pos_of_mem ha
    rw [List.length_cons]; omega
theorem free_step (ns : List Nat) (p : Nat) (hp : p < 256) (hl : ns.length < 256) : ∃ n, (p + n) % 256 ∉ ns := by
  have : ∃ q, q < 256 ∧ q ∉ ns := by
    refine Classical.byContradiction fun h => ?_
    have := sub_len (List.range 256) ns List.nodup_range fun x hx => by
      refine Classical.byContradiction fun hx' => h ⟨x, List.mem_range.mp hx, hx'⟩
    rw [List.length_range] at this
    omega
  obtain ⟨q, hq, hn⟩ := this
  refine ⟨q + 256 - p, ?_⟩
  have : (p + (q + 256 - p)) % 256 = q := by omega
  rw [this]; exact hn
theorem any_iff (ns : List Nat) (p : Nat) : ns.any (· == p) = decide (p ∈ ns) := by
  rw [Bool.eq_iff_iff, List.any_eq_true, decide_eq_true_iff]
  constructor
  · rintro ⟨x, hx, e⟩
    rw [beq_iff_eq] at e; rw [← e]; exact hx
  · exact fun h => ⟨p, h, by simp⟩

/-- what the law asks of the plain math -/
structure Mth (size ones turn which : Nat) (rws pls : List Nat) (free : Nat) : Prop where
  hI : ∀ x, x < 256 → interpA (ptsOf size ones rws pls) x size = beA size (lawAt x ones rws)
  hD2 : ∀ b, b.size = size → (interpA ((ptsOf size ones rws pls).set which (pls[which]!, b)) free size).size = size
  hE : times (pls.foldl (gapN pls[which]! pls[which]!) 1) (ofBE (interpA ((ptsOf size ones rws pls).set which (pls[which]!, beA size (ofBE (beA size (lawAt pls[which]! ones rws)) ^^^ turn))) free size) ^^^ lawAt free ones rws) ones = times (pls.foldl (gapN pls[which]! free) 1) turn ones

local macro_rules | `(tactic| walk_at "m") => `(tactic| first
  | assumption
  | with_reducible exact List.mem_cons_self
  | with_reducible exact setL_here
  | (with_reducible refine setL_there' ?_ (by dsimp only; decide +kernel); walk_at "m")
  | (with_reducible refine List.mem_cons_of_mem _ ?_; walk_at "m"))

theorem NA.snoc {vs : List Value} {rs : List Nat} {p : Nat} {t : Tok} (h : NA vs rs) : NA (vs ++ [.int (p : Int) t]) (rs ++ [p]) := ⟨by simp [h.1], fun i r hr => by
  by_cases hi : i < rs.length
  · rw [List.getElem?_append_left hi] at hr
    obtain ⟨t', e⟩ := h.2 i r hr
    exact ⟨t', by rw [List.getElem?_append_left (by rw [h.1]; exact hi)]; exact e⟩
  · rw [List.getElem?_append_right (Nat.le_of_not_lt hi)] at hr
    have h0 : i - rs.length = 0 := by
      have := (List.getElem?_eq_some_iff.mp hr).1
      simp at this; omega
    rw [h0] at hr
    cases hr
    exact ⟨t, by rw [List.getElem?_append_right (by rw [h.1]; exact Nat.le_of_not_lt hi), h.1, h0]; rfl⟩⟩

theorem Tr_number {W : Wc} {he : Heap} {L : Addr} {A : Around} {ρ : Loc} {obs : Led} (X : LX W A L) {a p : Nat} {o : Obj} {vs : List Value} {ns : List Int} {t : Tok} {Q : Value → Led → Prop} (hm : (a, o) ∈ obs) (hl : LsO o vs) (hi : IntsAre vs ns) (hlen : ns.length ≤ 63) (h1 : p < 2 ^ 40) (h : ∀ t, Q (.int (number ns p) t) obs) :
    Tr ⟨W, he, envF W.w 202 L⟩ A Fls ρ obs (call (.ref 162) [.ref a, .int (p : Int) t]) Q := by
  refine Tr_cl (Cl_sub (obs' := [(a, o)]) ?_ (c_number (by have := X.room; omega) hl hi (by omega) (by omega) (by omega))) (fun v ⟨t, e⟩ => by subst e; exact h t)
  obtain ⟨SH, hsb, _⟩ := frontSb hm
  exact Sb.trans ⟨SH, .refl _⟩ hsb
theorem Tr_modn {C : Cx} {A : Around} {E : Value → Shared → Prop} {ρ : Loc} {obs : Led} {a : Int} {b : Nat} {t u : Tok} {Q : Value → Led → Prop} (hb : 0 < b) (h : ∀ t, (a.fmod b).toNat < b → Q (.int (((a.fmod (b : Int)).toNat : Nat) : Int) t) obs) : Tr C A E ρ obs (binaryOp .Mod (.int a t) (.int (b : Int) u)) Q :=
  Tr_mod (by omega) fun t => by
    have h1 := Int.fmod_lt_of_pos a (show (0 : Int) < (b : Int) by omega)
    have h2 := Int.fmod_nonneg_of_pos a (show (0 : Int) < (b : Int) by omega)
    have := h t (by omega)
    rw [Int.toNat_of_nonneg h2] at this
    exact this

theorem lawB9 {W : Wc} {he : Heap} {L : Addr} {A : Around} {ρ : Loc} {obs : Led} (X : LX W A L) {sc lq lr : Addr} {osc olr : Obj} {sv rv : List Value} {ns : List Int} {n0 size any which many ones turn : Nat} {rws : List Nat} {ts ta tw to tu tm : Tok}
    (nsc : (Str.ofString "script", .ref sc) ∈ ρ) (nsz : (Str.ofString "size", .int (size : Int) ts) ∈ ρ) (na : (Str.ofString "anywhere", .int (any : Int) ta) ∈ ρ) (nw : (Str.ofString "which", .int (which : Int) tw) ∈ ρ) (nmy : (Str.ofString "many", .int (many : Int) tm) ∈ ρ)
    (nq : (Str.ofString "places", .ref lq) ∈ ρ) (nr : (Str.ofString "rows", .ref lr) ∈ ρ)
    (non : (Str.ofString "ones", .int (ones : Int) to) ∈ ρ) (ntu : (Str.ofString "turn", .int (turn : Int) tu) ∈ ρ)
    (hqhe : he.objs.size ≤ lq) (hmr : (lr, olr) ∈ obs) (hlr : LsO olr rv) (hms : (sc, osc) ∈ obs) (hls : LsO osc sv) (hint : IntsAre sv ns) (hnl : ns.length ≤ 63)
    (hsize : size ≤ 17) (hnr : NA rv rws) (hrl : rws.length ≤ 50) (hrn : 0 < rws.length) (hrlt : ∀ r ∈ rws, r < 2 ^ (8 * size)) (hmy : many ≤ 40) (hwh : which < many)
    (hany : any < 256) (hones : ones < 2 ^ 200) (hturn : turn < 256 ^ size) (hc : ∀ r, r < 2 ^ (8 * size) → xt ones r < 2 ^ (8 * size))
    (hM : ∀ pls free, pls.length = many → pls.Nodup → (∀ p ∈ pls, p < 256) → free < 256 → free ∉ pls → Mth size ones turn which rws pls free) :
    Ex ⟨W, he, envF W.w 202 L⟩ A Fls ρ ((lq, lsO [] n0) :: obs) (execs ((lawB W.w).drop 9) (envF W.w 202 L)) (fun fl _ _ => fl = .ret (.bool true)) := by
  have hroom := X.room
  refine from9 (by with_unfolding_all rfl) ?_
  refine Ex_mid (fun ρ' o => (∀ p ∈ ρ, p.1 ≠ Str.ofString "k" → p.1 ≠ Str.ofString "place" → p ∈ ρ') ∧ ∃ qv n ps, Sb ((lq, lsO qv n) :: obs) o ∧ NA qv ps ∧ ps.length = many + 1 ∧ ps.Nodup ∧ ∀ p ∈ ps, p < 256) ?_ ?_
  · with_reducible refine Ex_for (Ev_callT b_range (Ag_cons (Ev_bin (Ev_name (v := .int (many : Int) tm) (by walk_at "m") (En_int (i := 1) fun t1 => Tn_add fun t2 => Ag_nil (Tr_range fun r ob hr => ?_))))))
    refine Tr_iter_range (by omega) List.mem_cons_self hr (fun it ib hit hib => ?_)
    refine ⟨it, ib, _, RiP (many + 1), many + 1, _, _, rfl, rfl, nx_range (C := ⟨W, he, envF W.w 202 L⟩) X.hh hit, hib, fun i ρ' o => (∀ p ∈ ρ, p.1 ≠ Str.ofString "k" → p.1 ≠ Str.ofString "place" → p ∈ ρ') ∧ ∃ qv n ps, o = (r, ob) :: (lq, lsO qv n) :: obs ∧ NA qv ps ∧ ps.length = i ∧ ps.Nodup ∧ ∀ p ∈ ps, p < 256, ?_, ?_, ?_, ?_⟩
    · exact fun _ _ _ _ p hp => nomatch hp
    · exact ⟨fun p hp _ _ => hp, [], n0, [], rfl, ⟨rfl, fun i r h => by simp at h⟩, rfl, List.nodup_nil, fun p hp => nomatch hp⟩
    · rintro i ρ2 o2 v ib' hi ⟨tk, rfl⟩ hib' ⟨hρ2, qv, n, ps, rfl, hqa, hpl, hpn, hpl2⟩
      have up : ∀ {x : Str} {v : Value}, (x, v) ∈ ρ → x ≠ Str.ofString "k" → x ≠ Str.ofString "place" → (x, v) ∈ ρ2 := fun h a b => hρ2 _ h a b
      have nsc2 := up nsc (by decide +kernel) (by decide +kernel)
      have nq2 := up nq (by decide +kernel) (by decide +kernel)
      with_reducible refine Ex_cons (Ex_assign (Ev_bin (Ev_call (f := .ref 162) (g_number _) (k_number _) (Ag_cons (Ev_name (v := .ref sc) (by walk_at "m") (Ag_cons (Ev_bin (En_int (i := 16) fun t3 => Ev_name (v := .int (i : Int) tk) (by walk_at "m") (Tn_add fun t4 => Ag_nil (Tr_number X (by walk_at "m") hls hint hnl ?_ fun t5 => En_int (i := 256) fun t6 => Tr_modn (by decide) fun t7 hp0 => ?_))))))))))
      · omega
      generalize ((number ns ((16 + i : Nat) : Int)).fmod ((256 : Nat) : Int)).toNat = p0 at hp0 ⊢
      obtain ⟨n1, hn1⟩ := free_step ps p0 hp0 (by omega)
      refine Ex_mid (fun ρ' o => (∀ p ∈ ρ, p.1 ≠ Str.ofString "k" → p.1 ≠ Str.ofString "place" → p ∈ ρ') ∧ o = (it, ib') :: (r, ob) :: (lq, lsO qv n) :: obs ∧ ∃ (p1 : Nat) (t : Tok), (Str.ofString "place", Value.int (p1 : Int) t) ∈ ρ' ∧ p1 < 256 ∧ p1 ∉ ps) ?_ ?_
      · with_reducible refine Ex_while (fun m ρ' o => (∀ p ∈ ρ, p.1 ≠ Str.ofString "k" → p.1 ≠ Str.ofString "place" → p ∈ ρ') ∧ o = (it, ib') :: (r, ob) :: (lq, lsO qv n) :: obs ∧ ∃ (p1 : Nat) (t : Tok), (Str.ofString "place", Value.int (p1 : Int) t) ∈ ρ' ∧ p1 < 256 ∧ (p1 + m) % 256 ∉ ps) n1 ⟨?_, rfl, p0, t7, by walk_at "m", hp0, hn1⟩ ?_
        · exact fun p hp h1 h2 => setL_there (setL_there (hρ2 p hp h1 h2) (by simpa using h1)) (by simpa using h2)
        · rintro m ρ3 o3 ⟨hρ3, rfl, p1, t8, hpl3, hp1, hf⟩
          have nq3 := hρ3 _ nq (by dsimp only; decide +kernel) (by dsimp only; decide +kernel)
          with_reducible refine Ts_cmp (Ev_name (v := .int (p1 : Int) t8) (by walk_at "m") (Ev_name (v := .ref lq) (by walk_at "m") (Tr_in_ints (by walk_at "m") (lsO_is qv n) hqa (Tr_bool ?_))))
          rw [any_iff]
          by_cases hin : p1 ∈ ps
          · rw [if_pos (by simpa using hin)]
            with_reducible refine Ex_cons (Ex_assign (Ev_bin (Ev_bin (Ev_name (v := .int (p1 : Int) t8) (by walk_at "m") (En_int (i := 1) fun t9 => Tn_add fun t10 => En_int (i := 256) fun t11 => Tn_mod (by decide) fun t12 => ?_)))))
            have hm0 : 0 < m := by
              rcases Nat.eq_zero_or_pos m with e | h
              · subst e
                rw [Nat.add_zero, Nat.mod_eq_of_lt hp1] at hf
                exact absurd hin hf
              · exact h
            refine Ex_nil ⟨m - 1, by omega, fun p hp h1 h2 => setL_there (hρ3 p hp h1 h2) (by simpa using h2), rfl, (p1 + 1) % 256, t12, by walk_at "m", by omega, ?_⟩
            have : ((p1 + 1) % 256 + (m - 1)) % 256 = (p1 + m) % 256 := by omega
            rw [this]; exact hf
          · rw [if_neg (by simpa using hin)]
            exact ⟨rfl, hρ3, rfl, p1, t8, hpl3, hp1, hin⟩
      · rintro ρ3 o3 ⟨hρ3, rfl, p1, t8, hpl3, hp1, hin⟩
        have nq3 := hρ3 _ nq (by dsimp only; decide +kernel) (by dsimp only; decide +kernel)
        with_reducible refine Ex_cons (Ex_expr (Ev_append (Ev_name (v := .ref lq) (by walk_at "m") ⟨lq, rfl, ⟨qv, n, by walk_at "m"⟩, ?_⟩)))
        with_reducible refine Ag_cons (Ev_name (v := .int (p1 : Int) t8) (by walk_at "m") (Ag_nil ?_))
        refine ⟨qv, n, (it, ib') :: (r, ob) :: obs, _, rfl, ⟨[], ?_⟩, by rw [hqa.1]; omega, hqhe, fun n' => ⟨by with_unfolding_all rfl, Ex_nil ⟨(r, ob) :: (lq, lsO (qv ++ [.int (p1 : Int) t8]) n') :: obs, ⟨[], ?_⟩, hρ3, _, _, ps ++ [p1], rfl, hqa.snoc, ?_, ?_, ?_⟩⟩⟩
        · rw [List.append_nil]
          exact (List.perm_middle (l₁ := [(it, ib'), (r, ob)])).symm
        · rw [List.append_nil]
          exact List.perm_middle (l₁ := [(it, ib'), (r, ob)])
        · rw [List.length_append, hpl]; rfl
        · rw [List.nodup_append]
          exact ⟨hpn, by simp, fun x hx y hy e => hin (by rw [List.mem_singleton] at hy; rw [← hy, ← e]; exact hx)⟩
        · intro x hx
          rcases List.mem_append.mp hx with h | h
          · exact hpl2 x h
          · rw [List.mem_singleton.mp h]; exact hp1
    · rintro ρ2 o2 ⟨hρ2, qv, n, ps, rfl, hqa, hpl, hpn, hpl2⟩
      exact ⟨rfl, hρ2, qv, n, ps, .skip (.refl _), hqa, hpl, hpn, hpl2⟩
  · rintro ρ1 o1 ⟨hρ1, qv, n, ps, hsb1, hqa, hpl, hpn, hpl2⟩
    have up : ∀ {x : Str} {v : Value}, (x, v) ∈ ρ → x ≠ Str.ofString "k" → x ≠ Str.ofString "place" → (x, v) ∈ ρ1 := fun h a b => hρ1 _ h a b
    have nsz1 := up nsz (by decide +kernel) (by decide +kernel)
    have na1 := up na (by decide +kernel) (by decide +kernel)
    have nw1 := up nw (by decide +kernel) (by decide +kernel)
    have nmy1 := up nmy (by decide +kernel) (by decide +kernel)
    have nq1 := up nq (by decide +kernel) (by decide +kernel)
    have nr1 := up nr (by decide +kernel) (by decide +kernel)
    have non1 := up non (by decide +kernel) (by decide +kernel)
    have ntu1 := up ntu (by decide +kernel) (by decide +kernel)
    refine Ex_sb (fun _ h => h) hsb1 ?_
    have hmp : many < ps.length := by omega
    have hget : ps[many]? = some ps[many] := List.getElem?_eq_getElem hmp
    obtain ⟨tf, hqf⟩ := hqa.2 many _ hget
    have hfr : ps[many] < 256 := hpl2 _ (List.getElem_mem hmp)
    have hqvl : qv.length = many + 1 := hqa.1.trans hpl
    have hnf : ps[many] ∉ ps.take many := fun h => by
      have e : ps = ps.take many ++ [ps[many]] := by
        have h1 := List.take_append_drop many ps
        rw [List.drop_eq_getElem_cons hmp, List.drop_of_length_le (by omega)] at h1
        exact h1.symm
      rw [e, List.nodup_append] at hpn
      exact hpn.2.2 _ h _ List.mem_cons_self rfl
    have hM1 := hM (ps.take many) ps[many] (by rw [List.length_take]; omega) (hpn.sublist (List.take_sublist _ _)) (fun p hp => hpl2 p (List.mem_of_mem_take hp)) hfr hnf
    generalize ps[many] = free at hqf hfr hM1
    with_reducible refine Ex_cons (Ex_assign (Ev_sub (Ev_name (v := .ref lq) (by walk_at "m") (Ev_name (v := .int (many : Int) tm) (by walk_at "m") (Tr_item (x := .int (free : Int) tf) (by walk_at "m") (lsO_is qv n) ?_ ?_ ?_ ?_)))))
    · omega
    · omega
    · simpa using hqf
    with_reducible refine Ex_cons (Ex_assign (Ev_to (Ev_name (v := .ref lq) (by walk_at "m") (Ev_name (v := .int (many : Int) tm) (by walk_at "m") ?_))))
    refine ⟨lq, lsO qv n, qv, many, tm, rfl, rfl, by walk_at "m", lsO_is qv n, by omega, by omega, fun l2 hl2 => ?_⟩
    have hqa2 := hqa.take many
    have hpl3 : (ps.take many).length = many := by rw [List.length_take]; omega
    have hplt3 : ∀ p ∈ ps.take many, p < 256 := fun p hp => hpl2 p (List.mem_of_mem_take hp)
    have hnd3 := hpn.sublist (List.take_sublist many ps)
    generalize ps.take many = pls at hM1 hqa2 hpl3 hplt3 hnd3
    generalize qv.take many = wv at hqa2 ⊢
    have hk8 : (2 : Nat) ^ (8 * size) ≤ 2 ^ 200 := Nat.pow_le_pow_right (by decide) (by omega)
    refine Ex_cons (Ex_assign_comp (cl := ?_) (ρc := [(Str.ofString "size", .int (size : Int) ts), (Str.ofString "rows", .ref lr), (Str.ofString "ones", .int (ones : Int) to)]) ?_ ?_ ?_)
    · exact [(Str.ofString "size", L + 2), (Str.ofString "rows", L + 4), (Str.ofString "ones", L + 3)]
    · refine ⟨rfl, by kernel_rfl!, by kernel_rfl!, fun y c h => ?_, fun p hp => ?_⟩
      · have h1 : ∀ p ∈ [(Str.ofString "size", L + 2), (Str.ofString "rows", L + 4), (Str.ofString "ones", L + 3)], (envF W.w 202 L).cells.lookup p.1 = some p.2 := fun p hp => by
          rcases List.mem_cons.mp hp with rfl | hp
          · with_unfolding_all rfl
          · rcases List.mem_cons.mp hp with rfl | hp
            · with_unfolding_all rfl
            · rw [List.mem_singleton.mp hp]; with_unfolding_all rfl
        exact h1 (y, c) (mem_of_lookup h)
      · rcases List.mem_cons.mp hp with rfl | hp
        · exact ⟨by walk_at "m", by rw [show Env.kindOf _ _ = some .cell by kernel_rfl!]; decide, by rw [show List.lookup _ _ = some .cell by kernel_rfl!]; decide, by with_unfolding_all rfl⟩
        · rcases List.mem_cons.mp hp with rfl | hp
          · exact ⟨by walk_at "m", by rw [show Env.kindOf _ _ = some .cell by kernel_rfl!]; decide, by rw [show List.lookup _ _ = some .cell by kernel_rfl!]; decide, by with_unfolding_all rfl⟩
          · rw [List.mem_singleton.mp hp]
            exact ⟨by walk_at "m", by rw [show Env.kindOf _ _ = some .cell by kernel_rfl!]; decide, by rw [show List.lookup _ _ = some .cell by kernel_rfl!]; decide, by with_unfolding_all rfl⟩
    · with_unfolding_all rfl
    · with_reducible refine Ev_name (v := .ref l2) (by walk_at "m") (Tr_iter_list List.mem_cons_self (lsO_is wv 0) fun it ib hit hib => ?_)
      refine ⟨it, ib, _, wv.length, fun i ys ex => Shs ys ((ptsOf size ones rws pls).take i) ex, rfl, rfl, ⟨⟨LiP l2, _, _, nx_list (C := ⟨W, he, envF W.w 202 L⟩) X.hh hit (lsO_is wv 0), fun p hp => by rw [List.mem_singleton.mp hp]; exact List.mem_cons_self, hib, self_list, ?_⟩, by rw [hqa2.1]; omega, Shs.nil⟩, ?_⟩
      · intro i v he' Cn hi hv' hhe'
        obtain ⟨p, tp, hp, rfl⟩ := hqa2.val hv'
        have hp256 : p < 256 := hplt3 _ (List.mem_of_getElem? hp)
        with_reducible refine Ev_call (f := .ref 145) (g_rs _) (k_rs _) (Ag_cons (Ev_name (v := .int (p : Int) tp) (by walk_at "m") (Ag_cons (Ev_tobytes (x := lawAt p ones rws) (k := size) ?_ ?_ (Ev_call (f := .ref 183) (g_at _) (k_at _) (Ag_cons (Ev_name (v := .ref lr) (by walk_at "m") (Ag_cons (Ev_name (v := .int (p : Int) tp) (by walk_at "m") (Ag_cons (Ev_name (v := .int (ones : Int) to) (by walk_at "m") (Ag_nil (Tr_cl (Cl_sub (obs' := [(lr, olr)]) ?_ (c_at ?_ X.hh hlr hnr hrn ?_ ?_ (k := 8 * size) ?_ hones hc hrlt)) ?_)))))))))))))
        · omega
        · rw [← p2_256]; exact lawAt_lt hc hrlt
        · obtain ⟨SH, hsb, _⟩ := frontSb hmr
          exact Sb.trans ⟨SH, .refl _⟩ (hsb.skip.skip)
        · omega
        · omega
        · omega
        · omega
        rintro _ ⟨t1, rfl⟩
        refine ⟨t1, rfl, ?_⟩
        with_reducible refine Ag_cons (Ev_name (v := .int (size : Int) ts) (by walk_at "m") (Ag_cons (Ev_str fun t2 => Ag_nil ?_)))
        refine ⟨ts, t2, rfl, fun t3 => ?_⟩
        with_reducible refine Ag_nil (Tr_mk ?_ fun a d ha hd => ?_)
        · omega
        refine ⟨[(a, rsO (.int (p : Int) tp) (.bytes (beA size (lawAt p ones rws)) t3) d), (d, dO)], ⟨_, .refl _⟩, fun q hq => ?_, fun ys ex hlen hR => ?_⟩
        · rcases List.mem_cons.mp hq with rfl | hq
          · exact ha
          · rw [List.mem_singleton.mp hq]; exact hd
        · have e : (ptsOf size ones rws pls).take (i + 1) = (ptsOf size ones rws pls).take i ++ [(p, beA size (lawAt p ones rws))] := by
            rw [List.take_add_one]
            unfold ptsOf
            rw [List.getElem?_map, hp]; rfl
          show Shs (ys ++ [.ref a]) ((ptsOf size ones rws pls).take (i + 1)) ((a, rsO (.int (p : Int) tp) (.bytes (beA size (lawAt p ones rws)) t3) d) :: (d, dO) :: ex)
          rw [e]
          exact Shs.snoc (a := a) (d := d) (hR.mono fun q hq => by walk_at "m") (by walk_at "m") (by walk_at "m")
      · intro D oD ys ex hD hDh hlen hR
        have hmrl : (ptsOf size ones rws pls).take wv.length = ptsOf size ones rws pls := by
          rw [hqa2.1]; exact List.take_of_length_le (by unfold ptsOf; rw [List.length_map]; exact Nat.le_refl _)
        have hR2 : Shs ys (ptsOf size ones rws pls) ex := by rw [← hmrl]; exact hR
        refine to13 (w := W.w) (by with_unfolding_all rfl) ?_
        exact lawC X (size := size) (by walk_at "m") (by walk_at "m") (by walk_at "m") (by walk_at "m") (by walk_at "m") (by walk_at "m") (by walk_at "m") (by walk_at "m") (by walk_at "m")
          (by walk_at "m") hD (by exact List.mem_cons_of_mem _ (List.mem_append_right _ List.mem_cons_self)) (lsO_is wv 0) (by exact List.mem_cons_of_mem _ (List.mem_append_right _ (List.mem_cons_of_mem _ (List.mem_cons_of_mem _ hmr)))) hlr
          (hR2.mono fun q hq => List.mem_cons_of_mem _ (List.mem_append_left _ hq)) hsize hqa2 hnr hrl hrn hrlt (by omega) hplt3 (by omega) hfr hany hones hturn hc hnd3 hM1.hI hM1.hD2 hM1.hE
end Mine
set_option maxRecDepth 100000
set_option maxHeartbeats 4000000
set_option Elab.async false
set_option linter.unusedVariables false
namespace Mine
open PySem PySem.W PySem.Spec PyProof.Rows PySem.Calls PySem.W.KBw

local macro_rules | `(tactic| walk_at "m") => `(tactic| first
  | assumption
  | with_reducible exact List.mem_cons_self
  | with_reducible exact setL_here
  | (with_reducible refine setL_there' ?_ (by dsimp only; decide +kernel); walk_at "m")
  | (with_reducible refine List.mem_cons_of_mem _ ?_; walk_at "m"))

def onesN (size : Nat) : Nat := (256 ^ size - 1) / 255
noncomputable def numN (ns : List Int) (p m : Nat) : Nat := ((number ns (p : Int)).fmod (m : Int)).toNat
def sizesL : List Nat := [0, 1, 2, 3, 6, 16, 17]
noncomputable def sizeN (ns : List Int) : Nat := sizesL.getD (numN ns 1 7) 0
noncomputable def countN (ns : List Int) : Nat := 1 + numN ns 0 4
noncomputable def manyN (ns : List Int) : Nat := countN ns + numN ns 2 3
noncomputable def whichN (ns : List Int) : Nat := numN ns 3 (manyN ns)
noncomputable def rowsN (ns : List Int) : List Nat := (List.range (countN ns)).map fun k => rowN ns ((10 + k : Nat) : Int) (sizeN ns)
theorem numN_lt {ns : List Int} {p m : Nat} (h : 0 < m) : numN ns p m < m := by
  unfold numN
  have h1 := Int.fmod_lt_of_pos (number ns (p : Int)) (show (0 : Int) < (m : Int) by omega)
  omega
theorem sizeN_le (ns : List Int) : sizeN ns ≤ 17 := by
  have h := numN_lt (ns := ns) (p := 1) (m := 7) (by decide)
  unfold sizeN
  generalize numN ns 1 7 = k at h
  have : ∀ k, k < 7 → sizesL.getD k 0 ≤ 17 := by decide
  exact this k h

theorem from0 {C : Cx} {A : Around} {E : Value → Shared → Prop} {ρ : Loc} {obs : Led} {w : World} {Q : Flow → Loc → Led → Prop} {env : Env} {t : List Stmt} (e : (fdOf w 202).body = .stmts t) (h : Ex C A E ρ obs (execs t env) Q) : Ex C A E ρ obs (execs (lawB w) env) Q := by rw [lawB_of e]; exact h
theorem Tr_row {C : Cx} {A : Around} {E : Value → Shared → Prop} {ρ : Loc} {obs : Led} {a p sz : Nat} {o : Obj} {vs : List Value} {ns : List Int} {t u : Tok} {Q : Value → Led → Prop} (hroom : A.depth + 1 < recursionLimit) (hm : (a, o) ∈ obs) (hl : LsO o vs) (hi : IntsAre vs ns) (hlen : ns.length ≤ 63)
    (hb : ∀ x ∈ ns, Builtin.Int.intBits x ≤ 2 ^ 20) (h1 : p < 2 ^ 40) (hs : sz ≤ 17) (h : ∀ t, Q (.int (rowN ns (p : Int) sz : Nat) t) obs) : Tr C A E ρ obs (call (.ref 169) [.ref a, .int (p : Int) t, .int (sz : Int) u]) Q := by
  refine Tr_cl (Cl_sub (obs' := [(a, o)]) ?_ (c_row hroom hl hi (by omega) hb (by omega) (by omega) hs)) (fun v ⟨t, e⟩ => by subst e; exact h t)
  obtain ⟨SH, hsb, _⟩ := frontSb hm
  exact Sb.trans ⟨SH, .refl _⟩ hsb

theorem lawA {W : Wc} {he : Heap} {L : Addr} {A : Around} (X : LX W A L) (hcell : ∀ y c, (envF W.w 202 L).cells.lookup y = some c → he.objs.size ≤ c) {sc : Addr} {osc : Obj} {sv : List Value} {ns : List Int}
    (hls : LsO osc sv) (hint : IntsAre sv ns) (hnl : ns.length ≤ 63) (hbits : ∀ x ∈ ns, Builtin.Int.intBits x ≤ 2 ^ 20)
    (hc : ∀ size, size ≤ 17 → ∀ r, r < 2 ^ (8 * size) → xt (onesN size) r < 2 ^ (8 * size))
    (hM : ∀ size turn which rws pls free, size ≤ 17 → turn < 256 ^ size → which < pls.length → 0 < rws.length → rws.length ≤ pls.length → pls.length ≤ 6 → (∀ r ∈ rws, r < 2 ^ (8 * size)) → pls.Nodup → (∀ p ∈ pls, p < 256) → free < 256 → free ∉ pls → Mth size (onesN size) turn which rws pls free) :
    Ex ⟨W, he, envF W.w 202 L⟩ A Fls [(Str.ofString "script", .ref sc)] [(sc, osc)] (execs (lawB W.w) (envF W.w 202 L)) (fun fl _ _ => fl = .ret (.bool true)) := by
  have hroom := X.room
  have hcSize : ∀ {x : Str} c, (envF W.w 202 L).cells.lookup x = some c → he.objs.size ≤ c := fun c h => hcell _ c h
  refine from0 (by with_unfolding_all rfl) ?_
  -- count
  with_reducible refine Ex_cons (Ex_assign (Ev_bin (En_int (i := 1) fun t1 => Ev_bin (Ev_call (f := .ref 162) (g_number _) (k_number _) (Ag_cons (Ev_name (v := .ref sc) (by walk_at "m") (Ag_cons (En_int (i := 0) fun t2 => Ag_nil (Tr_number X (by walk_at "m") hls hint hnl ?_ fun t3 => En_int (i := 4) fun t4 => Tr_modn (by decide) fun t5 h5 => Tn_add fun t6 => ?_)))))))))
  · decide
  -- size
  with_reducible refine Ex_cons (Ex_assignC hcSize (Ev_sub (Ev_tuple (Ag_cons (En_int (i := 0) fun u0 => Ag_cons (En_int (i := 1) fun u1 => Ag_cons (En_int (i := 2) fun u2 => Ag_cons (En_int (i := 3) fun u3 => Ag_cons (En_int (i := 6) fun u4 => Ag_cons (En_int (i := 16) fun u5 => Ag_cons (En_int (i := 17) fun u6 => Ag_nil ⟨?_, fun ltp hltp => ?_⟩)))))))))))
  · show 7 ≤ _; decide
  with_reducible refine Ev_bin (Ev_call (f := .ref 162) (g_number _) (k_number _) (Ag_cons (Ev_name (v := .ref sc) (by walk_at "m") (Ag_cons (En_int (i := 1) fun t7 => Ag_nil (Tr_number X (by walk_at "m") hls hint hnl ?_ fun t8 => En_int (i := 7) fun t9 => Tr_modn (by decide) fun t10 h10 => ?_))))))
  · decide
  obtain ⟨usz, hsz⟩ : ∃ usz, [Value.int ((0 : Nat) : Int) u0, .int ((1 : Nat) : Int) u1, .int ((2 : Nat) : Int) u2, .int ((3 : Nat) : Int) u3, .int ((6 : Nat) : Int) u4, .int ((16 : Nat) : Int) u5, .int ((17 : Nat) : Int) u6][numN ns 1 7]? = some (.int ((sizeN ns : Nat) : Int) usz) := by
    have h := numN_lt (ns := ns) (p := 1) (m := 7) (by decide)
    unfold sizeN
    generalize numN ns 1 7 = k at h
    match k, h with
    | 0, _ => exact ⟨u0, rfl⟩
    | 1, _ => exact ⟨u1, rfl⟩
    | 2, _ => exact ⟨u2, rfl⟩
    | 3, _ => exact ⟨u3, rfl⟩
    | 4, _ => exact ⟨u4, rfl⟩
    | 5, _ => exact ⟨u5, rfl⟩
    | 6, _ => exact ⟨u6, rfl⟩
  refine Tr_titem (k := numN ns 1 7) List.mem_cons_self hsz (by show 7 ≤ _; decide) ?_
  have hcn : countN ns = 1 + ((number ns ((0 : Nat) : Int)).fmod ((4 : Nat) : Int)).toNat := rfl
  have hc4 : countN ns ≤ 4 := by have := numN_lt (ns := ns) (p := 0) (m := 4) (by decide); unfold countN; omega
  have hc1 : 0 < countN ns := by unfold countN; omega
  rw [← hcn]
  generalize hcg : countN ns = count at hc4 hc1
  have hm1 : manyN ns ≤ count + 2 := by have := numN_lt (ns := ns) (p := 2) (m := 3) (by decide); unfold manyN; omega
  have hm0 : count ≤ manyN ns := by unfold manyN; omega
  have hmn : manyN ns = count + ((number ns ((2 : Nat) : Int)).fmod ((3 : Nat) : Int)).toNat := by unfold manyN; rw [hcg]; rfl
  have hwn : whichN ns = ((number ns ((3 : Nat) : Int)).fmod ((manyN ns : Nat) : Int)).toNat := rfl
  have hw0 : whichN ns < manyN ns := numN_lt (by omega)
  have hsize := sizeN_le ns
  have hrows : rowsN ns = (List.range count).map fun k => rowN ns ((10 + k : Nat) : Int) (sizeN ns) := by unfold rowsN; rw [hcg]
  generalize sizeN ns = size at hsize hsz hrows ⊢
  -- many
  with_reducible refine Ex_cons (Ex_assign (Ev_bin (Ev_name (v := .int (count : Int) t6) (by walk_at "m") (Ev_bin (Ev_call (f := .ref 162) (g_number _) (k_number _) (Ag_cons (Ev_name (v := .ref sc) (by walk_at "m") (Ag_cons (En_int (i := 2) fun t11 => Ag_nil (Tr_number X (by walk_at "m") hls hint hnl ?_ fun t12 => En_int (i := 3) fun t13 => Tr_modn (by decide) fun t14 h14 => Tn_add fun t15 => ?_))))))))))
  · decide
  rw [← hmn]
  generalize manyN ns = many at hm1 hm0 hwn hw0 ⊢
  -- which
  with_reducible refine Ex_cons (Ex_assign (Ev_bin (Ev_call (f := .ref 162) (g_number _) (k_number _) (Ag_cons (Ev_name (v := .ref sc) (by walk_at "m") (Ag_cons (En_int (i := 3) fun t16 => Ag_nil (Tr_number X (by walk_at "m") hls hint hnl ?_ fun t17 => Ev_name (v := .int (many : Int) t15) (by walk_at "m") (Tr_modn ?_ fun t18 h18 => ?_)))))))))
  · decide
  · omega
  rw [← hwn]
  generalize whichN ns = which at hw0 ⊢
  -- anywhere
  with_reducible refine Ex_cons (Ex_assign (Ev_bin (Ev_call (f := .ref 162) (g_number _) (k_number _) (Ag_cons (Ev_name (v := .ref sc) (by walk_at "m") (Ag_cons (En_int (i := 4) fun t19 => Ag_nil (Tr_number X (by walk_at "m") hls hint hnl ?_ fun t20 => En_int (i := 256) fun t21 => Tr_modn (by decide) fun t22 h22 => ?_))))))))
  · decide
  generalize ((number ns ((4 : Nat) : Int)).fmod ((256 : Nat) : Int)).toNat = any at h22 ⊢
  -- turn
  with_reducible refine Ex_cons (Ex_assign (Ev_call (f := .ref 169) (g_row _) (k_row _) (Ag_cons (Ev_name (v := .ref sc) (by walk_at "m") (Ag_cons (En_int (i := 5) fun t23 => Ag_cons (Ev_name (v := .int (size : Int) usz) (by walk_at "m") (Ag_nil (Tr_row ?_ (by walk_at "m") hls hint hnl hbits ?_ hsize fun t24 => ?_)))))))))
  · omega
  · decide
  have hturn := rowN_lt ns ((5 : Nat) : Int) size
  generalize rowN ns ((5 : Nat) : Int) size = turn at hturn ⊢
  -- ones
  with_reducible refine Ex_cons (Ex_assignC hcSize (Ev_bin (Ev_bin (Ev_bin (En_int (i := 256) fun t25 => Ev_name (v := .int (size : Int) usz) (by walk_at "m") (Tr_pow ?_ ?_ fun t26 => En_int (i := 1) fun t27 => Tr_sub fun t28 => ?_))))))
  · omega
  · have : Builtin.Int.intBits ((256 : Nat) : Int) = 9 := by decide +kernel
    rw [this]; omega
  have h256 : 0 < 256 ^ size := Nat.pow_pos (by decide)
  have e1 : ((256 : Nat) : Int) ^ ((size : Int)).toNat - ((1 : Nat) : Int) = ((256 ^ size - 1 : Nat) : Int) := by
    rw [Int.toNat_natCast, Int.natCast_sub h256]; simp
  rw [e1]
  refine En_int (i := 255) fun t29 => ?_
  refine Tn_fdiv (b := 255) (by decide) (by decide) fun t30 => ?_
  rw [show (256 ^ size - 1) / 255 = onesN size from rfl]
  have hones : onesN size < 2 ^ 200 := by
    have h1 : onesN size ≤ 256 ^ size := by unfold onesN; omega
    have h2 : 256 ^ size ≤ 256 ^ 17 := Nat.pow_le_pow_right (by decide) hsize
    exact Nat.lt_of_le_of_lt (Nat.le_trans h1 h2) (by decide +kernel)
  have hc' := hc size hsize
  have hM' := hM size turn which
  generalize onesN size = ones at hones hc' hM' ⊢
  -- rows
  refine Ex_cons (Ex_assignC hcSize (Ev_comp (cl := ?_) (ρc := [(Str.ofString "script", .ref sc), (Str.ofString "size", .int (size : Int) usz)]) ?_ ?_ ?_))
  · exact [(Str.ofString "size", L + 2), (Str.ofString "script", L + 1)]
  · refine ⟨rfl, by kernel_rfl!, by kernel_rfl!, fun y c h => ?_, fun p hp => ?_⟩
    · have h1 : ∀ p ∈ [(Str.ofString "size", L + 2), (Str.ofString "script", L + 1)], (envF W.w 202 L).cells.lookup p.1 = some p.2 := fun p hp => by
        rcases List.mem_cons.mp hp with rfl | hp
        · with_unfolding_all rfl
        · rw [List.mem_singleton.mp hp]; with_unfolding_all rfl
      exact h1 (y, c) (mem_of_lookup h)
    · rcases List.mem_cons.mp hp with rfl | hp
      · exact ⟨by walk_at "m", by rw [show Env.kindOf _ _ = some .cell by kernel_rfl!]; decide, by rw [show List.lookup _ _ = some .cell by kernel_rfl!]; decide, by with_unfolding_all rfl⟩
      · rw [List.mem_singleton.mp hp]
        exact ⟨by walk_at "m", by rw [show Env.kindOf _ _ = some .cell by kernel_rfl!]; decide, by rw [show List.lookup _ _ = some .cell by kernel_rfl!]; decide, by with_unfolding_all rfl⟩
  · with_unfolding_all rfl
  · with_reducible refine Ev_callT b_range (Ag_cons (Ev_name (v := .int (count : Int) t6) (by walk_at "m") (Ag_nil (Tr_range fun r ob hr => ?_))))
    refine Tr_iter_range (by omega) List.mem_cons_self hr (fun it ib hit hib => ?_)
    refine ⟨it, ib, _, count, fun i ys ex => NA ys (((List.range count).map fun k => rowN ns ((10 + k : Nat) : Int) size).take i) ∧ ex = [], rfl, rfl, ⟨⟨RiP count, _, _, nx_range (C := ⟨W, he, envF W.w 202 L⟩) X.hh hit, (fun p hp => nomatch hp), hib, self_range, ?_⟩, by omega, ⟨⟨rfl, fun i r h => by simp at h⟩, rfl⟩⟩, ?_⟩
    · rintro i v he' Cn hi ⟨tk, rfl⟩ hhe'
      with_reducible refine Ev_call (f := .ref 169) (g_row _) (k_row _) (Ag_cons (Ev_name (v := .ref sc) (by walk_at "m") (Ag_cons (Ev_bin (En_int (i := 10) fun t31 => Ev_name (v := .int (i : Int) tk) (by walk_at "m") (Tn_add fun t32 => Ag_cons (Ev_name (v := .int (size : Int) usz) (by walk_at "m") (Ag_nil (Tr_row ?_ (by walk_at "m") hls hint hnl hbits ?_ hsize fun t33 => ?_)))))))))
      · omega
      · omega
      refine ⟨[], ⟨_, .refl _⟩, (fun q hq => nomatch hq), fun ys ex hlen hR => ⟨?_, hR.2⟩⟩
      have e : ((List.range count).map fun k => rowN ns ((10 + k : Nat) : Int) size).take (i + 1) = ((List.range count).map fun k => rowN ns ((10 + k : Nat) : Int) size).take i ++ [rowN ns ((10 + i : Nat) : Int) size] := by
        rw [List.take_add_one, List.getElem?_map, List.getElem?_range hi]; rfl
      rw [e]
      exact hR.1.snoc
    · rintro D oD ys ex hD hDh hlen ⟨hR, rfl⟩
      have hrl0 : ((List.range count).map fun k => rowN ns ((10 + k : Nat) : Int) size).length = count := by simp
      rw [List.take_of_length_le (by rw [hrl0]; exact Nat.le_refl _)] at hR
      have hrlt : ∀ r ∈ ((List.range count).map fun k => rowN ns ((10 + k : Nat) : Int) size), r < 2 ^ (8 * size) := fun r hr => by
        obtain ⟨k, _, rfl⟩ := List.mem_map.mp hr
        rw [p2_256]; exact rowN_lt _ _ _
      generalize ((List.range count).map fun k => rowN ns ((10 + k : Nat) : Int) size) = rws at hR hrl0 hrlt
      with_reducible refine Ex_cons (Ex_assign (Ev_list (Ag_nil ⟨?_, fun lq hlq => ?_⟩)))
      · exact Nat.zero_le _
      refine to9 (w := W.w) (by with_unfolding_all rfl) ?_
      exact lawB9 X (n0 := 0) (size := size) (ts := usz) (ta := t22) (tw := t18) (tm := t15) (to := t30) (tu := t24) (lr := D) (sc := sc) (by walk_at "m") (by walk_at "m") (by walk_at "m") (by walk_at "m") (by walk_at "m") (by walk_at "m") (by walk_at "m") (by walk_at "m") (by walk_at "m")
        hlq (olr := oD) (by walk_at "m") hD (osc := osc) (by exact List.mem_cons_of_mem _ (List.mem_append_right _ (by walk_at "m"))) hls hint hnl hsize hR (by omega) (by omega) hrlt (by omega) hw0 h22 hones hturn hc'
        fun pls free h1 h2 h3 h4 h5 => hM' rws pls free hsize hturn (by omega) (by omega) (by omega) (by omega) hrlt h2 h3 h4 h5
end Mine
set_option linter.unusedVariables false
namespace Mine

/-- a field of characteristic two, as bare laws -/
structure Fld (α : Type) [DecidableEq α] where
  a : α → α → α
  m : α → α → α
  z : α
  e : α
  i : α → α
  aa : ∀ x y w, a (a x y) w = a x (a y w)
  ac : ∀ x y, a x y = a y x
  az : ∀ x, a x z = x
  as : ∀ x, a x x = z
  ma : ∀ x y w, m (m x y) w = m x (m y w)
  mc : ∀ x y, m x y = m y x
  me : ∀ x, m x e = x
  mz : ∀ x, m x z = z
  md : ∀ x y w, m x (a y w) = a (m x y) (m x w)
  mi : ∀ x, x ≠ z → m x (i x) = e
  ez : e ≠ z

namespace Fld
variable {α : Type} [DecidableEq α] (F : Fld α)
theorem za (x : α) : F.a F.z x = x := by rw [F.ac, F.az]
theorem em (x : α) : F.m F.e x = x := by rw [F.mc, F.me]
theorem zm (x : α) : F.m F.z x = F.z := by rw [F.mc, F.mz]
theorem dm (x y w : α) : F.m (F.a y w) x = F.a (F.m y x) (F.m w x) := by rw [F.mc, F.md, F.mc x y, F.mc x w]
theorem acan (x y : α) : F.a x (F.a x y) = y := by rw [← F.aa, F.as, F.za]
theorem alc (x y w : α) : F.a x (F.a y w) = F.a y (F.a x w) := by rw [← F.aa, F.ac x y, F.aa]
theorem mlc (x y w : α) : F.m x (F.m y w) = F.m y (F.m x w) := by rw [← F.ma, F.mc x y, F.ma]
theorem a_ne {x y : α} (h : x ≠ y) : F.a x y ≠ F.z := fun e => h (by
  have := F.acan x y
  rw [e, F.az] at this; exact this)
theorem a_eq {x y : α} (h : F.a x y = F.z) : x = y := Classical.byContradiction fun hn => F.a_ne hn h
theorem mcan {d x : α} (hd : d ≠ F.z) (h : F.m d x = F.z) : x = F.z := by
  have : F.m (F.i d) (F.m d x) = x := by rw [← F.ma, F.mc (F.i d), F.mi d hd, F.em]
  rw [← this, h, F.mz]
theorem ie : F.i F.e = F.e := by
  have := F.mi F.e F.ez
  rw [F.em] at this; exact this

/-- nought counts as one -/
def lg (v : α) : α := if v = F.z then F.e else v
theorem lg_z : F.lg F.z = F.e := if_pos rfl
theorem lg_n {v : α} (h : v ≠ F.z) : F.lg v = v := if_neg h
theorem lg_ne (v : α) : F.lg v ≠ F.z := by
  unfold lg
  split
  · exact F.ez
  · assumption
def pr (l : List α) (y : α) : α := l.foldr (fun w t => F.m (F.lg (F.a w y)) t) F.e
def ip (l : List α) (y : α) : α := l.foldr (fun w t => F.m (F.i (F.lg (F.a w y))) t) F.e
theorem pr_ip (l : List α) (y : α) : F.m (F.pr l y) (F.ip l y) = F.e := by
  induction l with
  | nil => exact F.em _
  | cons w l ih =>
    show F.m (F.m (F.lg (F.a w y)) (F.pr l y)) (F.m (F.i (F.lg (F.a w y))) (F.ip l y)) = F.e
    rw [F.ma, F.mlc (F.pr l y), ih, F.me, F.mi _ (F.lg_ne _)]
/-- the sum over l of f against the points of k -/
def G (f : α → α) (k l : List α) : α := l.foldr (fun y t => F.a (F.m (f y) (F.ip k y)) t) F.z
theorem G_congr {f g : α → α} {k k' l : List α} (h : ∀ y ∈ l, F.m (f y) (F.ip k y) = F.m (g y) (F.ip k' y)) : F.G f k l = F.G g k' l := by
  induction l with
  | nil => rfl
  | cons y l ih =>
    show F.a _ (F.G f k l) = F.a _ (F.G g k' l)
    rw [h y List.mem_cons_self, ih fun y' hy => h y' (List.mem_cons_of_mem _ hy)]
theorem G_add (f g : α → α) (k l : List α) : F.G (fun t => F.a (f t) (g t)) k l = F.a (F.G f k l) (F.G g k l) := by
  induction l with
  | nil => exact (F.az _).symm
  | cons y l ih =>
    show F.a (F.m (F.a (f y) (g y)) (F.ip k y)) (F.G _ k l) = F.a (F.a (F.m (f y) (F.ip k y)) (F.G f k l)) (F.a (F.m (g y) (F.ip k y)) (F.G g k l))
    rw [ih, F.dm, F.aa, F.aa, F.alc (F.m (g y) (F.ip k y))]
theorem G_mul (c : α) (f : α → α) (k l : List α) : F.G (fun t => F.m c (f t)) k l = F.m c (F.G f k l) := by
  induction l with
  | nil => exact (F.mz _).symm
  | cons y l ih =>
    show F.a (F.m (F.m c (f y)) (F.ip k y)) (F.G _ k l) = F.m c (F.a (F.m (f y) (F.ip k y)) (F.G f k l))
    rw [ih, F.ma, F.md]
theorem G_zero (k l : List α) : F.G (fun _ => F.z) k l = F.z := by
  induction l with
  | nil => rfl
  | cons y l ih =>
    show F.a (F.m F.z _) (F.G _ k l) = F.z
    rw [ih, F.zm, F.az]
def S (f : α → α) (l : List α) : α := F.G f l l
theorem S_cons (f : α → α) (z : α) (l : List α) : F.S f (z :: l) = F.a (F.m (f z) (F.ip l z)) (F.G f (z :: l) l) := by
  show F.a (F.m (f z) (F.m (F.i (F.lg (F.a z z))) (F.ip l z))) (F.G f (z :: l) l) = _
  rw [F.as, F.lg_z, F.ie, F.em]
theorem G_off {f g : α → α} {z : α} {k l : List α} (hz : z ∉ l) (h : ∀ y ∈ l, f y = F.m (F.a y z) (g y)) : F.G f (z :: k) l = F.G g k l := by
  refine F.G_congr fun y hy => ?_
  have hne : F.a z y ≠ F.z := F.a_ne fun e => hz (e ▸ hy)
  show F.m (f y) (F.m (F.i (F.lg (F.a z y))) (F.ip k y)) = _
  rw [h y hy, F.lg_n hne, F.ac y z, F.ma, F.mlc (g y), ← F.ma, F.mi _ hne, F.em]
theorem S_mul {f g : α → α} {z : α} {l : List α} (hz : z ∉ l) (h : ∀ t, f t = F.m (F.a t z) (g t)) : F.S f (z :: l) = F.S g l := by
  rw [F.S_cons, F.G_off hz fun y _ => h y, h z, F.as, F.zm, F.zm, F.za]; rfl
theorem ip_swap (x w : α) (l : List α) (y : α) : F.ip (x :: w :: l) y = F.ip (w :: x :: l) y := F.mlc _ _ _
theorem S_swap (f : α → α) (x w : α) (l : List α) : F.S f (x :: w :: l) = F.S f (w :: x :: l) := by
  show F.a (F.m (f x) (F.ip _ x)) (F.a (F.m (f w) (F.ip _ w)) (F.G f (x :: w :: l) l)) = F.a (F.m (f w) (F.ip _ w)) (F.a (F.m (f x) (F.ip _ x)) (F.G f (w :: x :: l) l))
  rw [F.alc, F.G_congr (k := x :: w :: l) (k' := w :: x :: l) (f := f) (g := f) fun y _ => by rw [F.ip_swap], F.ip_swap x w l x, F.ip_swap x w l w]
theorem S_one : ∀ (n : Nat) (l : List α), l.length = n + 2 → l.Nodup → F.S (fun _ => F.e) l = F.z
  | n, [], h, _ => by cases h
  | n, [_], h, _ => by cases h
  | n, x :: w :: l, h, hn => by
    have hn' := hn
    rw [List.nodup_cons, List.nodup_cons] at hn
    have hxw : x ≠ w := fun e => hn.1 (by rw [e]; exact List.mem_cons_self)
    have hwl : (w :: l).Nodup := List.nodup_cons.mpr hn.2
    have hxl : (x :: l).Nodup := List.nodup_cons.mpr ⟨fun h => hn.1 (List.mem_cons_of_mem _ h), hn.2.2⟩
    have hwx : w ∉ x :: l := fun h => (List.mem_cons.mp h).elim (fun e => hxw e.symm) hn.2.1
    refine F.mcan (d := F.a x w) (F.a_ne hxw) ?_
    rw [S, ← F.G_mul]
    have e1 : F.G (fun t => F.m (F.a x w) F.e) (x :: w :: l) (x :: w :: l) = F.G (fun t => F.a (F.m (F.a t x) F.e) (F.m (F.a t w) F.e)) (x :: w :: l) (x :: w :: l) := by
      refine F.G_congr fun y _ => ?_
      rw [F.me, F.me, F.me, F.aa, F.alc x y w, F.acan]
    rw [e1, F.G_add]
    show F.a (F.S _ (x :: w :: l)) (F.S _ (x :: w :: l)) = F.z
    rw [F.S_mul (z := x) (g := fun _ => F.e) hn.1 fun _ => rfl, F.S_swap, F.S_mul (z := w) (g := fun _ => F.e) hwx fun _ => rfl]
    match n, l, h with
    | 0, [], _ => 
      have : ∀ v : α, F.S (fun _ => F.e) [v] = F.e := fun v => by
        rw [F.S_cons]
        show F.a (F.m F.e F.e) F.z = F.e
        rw [F.az, F.me]
      rw [this, this, F.as]
    | n + 1, l, h =>
      rw [S_one n (w :: l) (by simpa using h) hwl, S_one n (x :: l) (by simpa using h) hxl, F.as]
/-- a polynomial, its highest coefficient first -/
def ev (cs : List α) (t : α) : α := cs.foldl (fun s r => F.a (F.m t s) r) F.z
theorem ev_snoc (cs : List α) (r t : α) : F.ev (cs ++ [r]) t = F.a (F.m t (F.ev cs t)) r := by unfold ev; rw [List.foldl_append]; rfl
theorem quot : ∀ (n : Nat) (cs : List α), cs.length = n + 1 → ∀ x, ∃ qs : List α, qs.length = n ∧ ∀ t, F.a (F.ev cs t) (F.ev cs x) = F.m (F.a t x) (F.ev qs t)
  | n, cs, h, x => by
    have hne : cs ≠ [] := fun e => by rw [e] at h; cases h
    obtain ⟨c', r, rfl⟩ : ∃ c' r, cs = c' ++ [r] := ⟨_, _, (List.dropLast_concat_getLast hne).symm⟩
    rw [List.length_append, List.length_singleton] at h
    match n, c', h with
    | 0, [], _ =>
      refine ⟨[], rfl, fun t => ?_⟩
      show F.a (F.a (F.m t F.z) r) (F.a (F.m x F.z) r) = F.m _ F.z
      rw [F.mz, F.mz, F.mz, F.as]
    | n + 1, c', h =>
      obtain ⟨qs, hq, hs⟩ := quot n c' (by omega) x
      refine ⟨qs ++ [F.ev c' x], by simp [hq], fun t => ?_⟩
      rw [F.ev_snoc, F.ev_snoc, F.ev_snoc, F.md, F.mlc, ← hs t, F.md, F.dm]
      rw [F.aa, F.ac r, F.aa, F.as, F.az, F.aa, F.acan]
theorem S_ev : ∀ (n : Nat) (cs l : List α), cs.length = n → n < l.length → l.Nodup → F.S (F.ev cs) l = F.z
  | 0, [], l, _, _, _ => F.G_zero l l
  | n + 1, cs, [], _, hl, _ => by cases hl
  | n + 1, cs, x :: l, hc, hl, hn => by
    obtain ⟨qs, hq, hs⟩ := F.quot n cs hc x
    rw [List.nodup_cons] at hn
    have hl' : n < l.length := by rw [List.length_cons] at hl; omega
    have e1 : F.S (F.ev cs) (x :: l) = F.G (fun t => F.a (F.m (F.ev cs x) F.e) (F.m (F.a t x) (F.ev qs t))) (x :: l) (x :: l) := by
      refine F.G_congr fun y _ => ?_
      rw [← hs y, F.me, F.ac (F.ev cs y), F.acan]
    rw [e1, F.G_add, F.G_mul]
    show F.a (F.m _ (F.S _ (x :: l))) (F.S _ (x :: l)) = F.z
    have hl2 : (x :: l).length = (l.length - 1) + 2 := by rw [List.length_cons]; omega
    rw [F.S_one _ (x :: l) hl2 (List.nodup_cons.mpr hn), F.S_mul hn.1 (g := F.ev qs) (fun _ => rfl), S_ev n qs l hq hl' hn.2, F.mz, F.az]

/-- Lagrange's share of the point y at x -/
def B (l : List α) (x y : α) : α := F.m (F.pr l x) (F.m (F.i (F.lg (F.a y x))) (F.ip l y))
def La (f : α → α) (k l : List α) (x : α) : α := l.foldr (fun y t => F.a (F.m (f y) (F.B k x y)) t) F.z
theorem La_G (f : α → α) (k l : List α) (x : α) : F.La f k l x = F.m (F.pr k x) (F.G f (x :: k) l) := by
  induction l with
  | nil => exact (F.mz _).symm
  | cons y l ih =>
    show F.a (F.m (f y) (F.m (F.pr k x) (F.m (F.i (F.lg (F.a y x))) (F.ip k y)))) (F.La f k l x) = F.m (F.pr k x) (F.a (F.m (f y) (F.m (F.i (F.lg (F.a x y))) (F.ip k y))) (F.G f (x :: k) l))
    rw [ih, F.md, F.mlc, F.ac y x]
theorem lagrange {cs l : List α} {x : α} (hx : x ∉ l) (hn : l.Nodup) (hc : cs.length ≤ l.length) : F.La (F.ev cs) l l x = F.ev cs x := by
  have h := F.S_ev _ cs (x :: l) rfl (by rw [List.length_cons]; omega) (List.nodup_cons.mpr ⟨hx, hn⟩)
  rw [F.S_cons] at h
  rw [F.La_G, ← F.a_eq h, F.mlc, F.pr_ip, F.me]
theorem La_add (f g : α → α) (k l : List α) (x : α) : F.La (fun t => F.a (f t) (g t)) k l x = F.a (F.La f k l x) (F.La g k l x) := by
  rw [F.La_G, F.La_G, F.La_G, F.G_add, F.md]
theorem La_none {w c : α} {k l : List α} {x : α} (hw : w ∉ l) : F.La (fun t => if t = w then c else F.z) k l x = F.z := by
  induction l with
  | nil => rfl
  | cons y l ih =>
    show F.a (F.m (if y = w then c else F.z) _) (F.La _ k l x) = F.z
    have hyw : y ≠ w := fun e => hw (by rw [e]; exact List.mem_cons_self)
    rw [if_neg hyw, ih fun h => hw (List.mem_cons_of_mem _ h), F.zm, F.az]
theorem La_one {w c : α} {k l : List α} {x : α} (hw : w ∈ l) (hn : l.Nodup) : F.La (fun t => if t = w then c else F.z) k l x = F.m c (F.B k x w) := by
  induction l with
  | nil => cases hw
  | cons y l ih =>
    rw [List.nodup_cons] at hn
    show F.a (F.m (if y = w then c else F.z) _) (F.La _ k l x) = _
    by_cases e : y = w
    · subst e
      rw [if_pos rfl, F.La_none hn.1, F.az]
    · rw [if_neg e, F.zm, F.za]
      exact ih ((List.mem_cons.mp hw).resolve_left fun h => e h.symm) hn.2
/-- the gaps at y, but for that of w -/
def gp (l : List α) (w y : α) : α := l.foldr (fun p t => if p = w then t else F.m (F.a p y) t) F.e
theorem gp_no {l : List α} {w y : α} (hy : y ∉ l) (hw : w ∉ l) : F.gp l w y = F.pr l y := by
  induction l with
  | nil => rfl
  | cons p l ih =>
    show (if p = w then F.gp l w y else F.m (F.a p y) (F.gp l w y)) = F.m (F.lg (F.a p y)) (F.pr l y)
    have hpw : p ≠ w := fun e => hw (by rw [e]; exact List.mem_cons_self)
    have hpy : p ≠ y := fun e => hy (by rw [e]; exact List.mem_cons_self)
    rw [if_neg hpw, ih (fun h => hy (List.mem_cons_of_mem _ h)) (fun h => hw (List.mem_cons_of_mem _ h)), F.lg_n (F.a_ne hpy)]
theorem gp_near (l : List α) (w : α) : F.gp l w w = F.pr l w := by
  induction l with
  | nil => rfl
  | cons p l ih =>
    show (if p = w then F.gp l w w else F.m (F.a p w) (F.gp l w w)) = F.m (F.lg (F.a p w)) (F.pr l w)
    by_cases e : p = w
    · subst e
      rw [if_pos rfl, F.as, F.lg_z, F.em, ih]
    · rw [if_neg e, F.lg_n (F.a_ne e), ih]
theorem gp_far {l : List α} {w x : α} (hw : w ∈ l) (hx : x ∉ l) (hn : l.Nodup) : F.m (F.a w x) (F.gp l w x) = F.pr l x := by
  induction l with
  | nil => cases hw
  | cons p l ih =>
    rw [List.nodup_cons] at hn
    have hpx : p ≠ x := fun e => hx (by rw [← e]; exact List.mem_cons_self)
    have hx' : x ∉ l := fun h => hx (List.mem_cons_of_mem _ h)
    show F.m (F.a w x) (if p = w then F.gp l w x else F.m (F.a p x) (F.gp l w x)) = F.m (F.lg (F.a p x)) (F.pr l x)
    rw [F.lg_n (F.a_ne hpx)]
    by_cases e : p = w
    · subst e
      rw [if_pos rfl, F.gp_no hx' hn.1]
    · rw [if_neg e, F.mlc, ih ((List.mem_cons.mp hw).resolve_left fun h => e h.symm) hx' hn.2]
theorem turn_law {l : List α} {w x c : α} (hw : w ∈ l) (hx : x ∉ l) (hn : l.Nodup) : F.m (F.gp l w w) (F.m c (F.B l x w)) = F.m (F.gp l w x) c := by
  have hwx : w ≠ x := fun e => hx (e ▸ hw)
  rw [F.gp_near, B, ← F.gp_far hw hx hn, F.lg_n (F.a_ne hwx)]
  generalize F.gp l w x = g
  have h1 := F.pr_ip l w
  generalize F.pr l w = P at h1 ⊢
  generalize F.ip l w = I at h1 ⊢
  have h2 := F.mi _ (F.a_ne hwx)
  generalize F.a w x = d at h2 ⊢
  generalize F.i d = J at h2 ⊢
  have : F.m P (F.m c (F.m (F.m d g) (F.m J I))) = F.m (F.m P I) (F.m (F.m d J) (F.m g c)) := by
    haveI : Std.Associative F.m := ⟨F.ma⟩
    haveI : Std.Commutative F.m := ⟨F.mc⟩
    ac_rfl
  rw [this, h1, h2, F.em, F.em]
end Fld
end Mine
set_option linter.unusedVariables false
namespace Mine

theorem xlt {a b : Nat} (ha : a < 256) (hb : b < 256) : a ^^^ b < 256 := Nat.xor_lt_two_pow (n := 8) ha hb
theorem byAll (p : Nat → Bool) (n : Nat) (h : (List.range n).all p = true) : ∀ a, a < n → p a = true := fun a ha => List.all_eq_true.mp h a (List.mem_range.mpr ha)

def EL : List Nat := [1, 3, 5, 15, 17, 51, 85, 255, 26, 46, 114, 150, 161, 248, 19, 53, 95, 225, 56, 72, 216, 115, 149, 164, 247, 2, 6, 10, 30, 34, 102, 170, 229, 52, 92, 228, 55, 89, 235, 38, 106, 190, 217, 112, 144, 171, 230, 49, 83, 245, 4, 12, 20, 60, 68, 204, 79, 209, 104, 184, 211, 110, 178, 205, 76, 212, 103, 169, 224, 59, 77, 215, 98, 166, 241, 8, 24, 40, 120, 136, 131, 158, 185, 208, 107, 189, 220, 127, 129, 152, 179, 206, 73, 219, 118, 154, 181, 196, 87, 249, 16, 48, 80, 240, 11, 29, 39, 105, 187, 214, 97, 163, 254, 25, 43, 125, 135, 146, 173, 236, 47, 113, 147, 174, 233, 32, 96, 160, 251, 22, 58, 78, 210, 109, 183, 194, 93, 231, 50, 86, 250, 21, 63, 65, 195, 94, 226, 61, 71, 201, 64, 192, 91, 237, 44, 116, 156, 191, 218, 117, 159, 186, 213, 100, 172, 239, 42, 126, 130, 157, 188, 223, 122, 142, 137, 128, 155, 182, 193, 88, 232, 35, 101, 175, 234, 37, 111, 177, 200, 67, 197, 84, 252, 31, 33, 99, 165, 244, 7, 9, 27, 45, 119, 153, 176, 203, 70, 202, 69, 207, 74, 222, 121, 139, 134, 145, 168, 227, 62, 66, 198, 81, 243, 14, 18, 54, 90, 238, 41, 123, 141, 140, 143, 138, 133, 148, 167, 242, 13, 23, 57, 75, 221, 124, 132, 151, 162, 253, 28, 36, 108, 180, 199, 82, 246]
def LL : List Nat := [0, 0, 25, 1, 50, 2, 26, 198, 75, 199, 27, 104, 51, 238, 223, 3, 100, 4, 224, 14, 52, 141, 129, 239, 76, 113, 8, 200, 248, 105, 28, 193, 125, 194, 29, 181, 249, 185, 39, 106, 77, 228, 166, 114, 154, 201, 9, 120, 101, 47, 138, 5, 33, 15, 225, 36, 18, 240, 130, 69, 53, 147, 218, 142, 150, 143, 219, 189, 54, 208, 206, 148, 19, 92, 210, 241, 64, 70, 131, 56, 102, 221, 253, 48, 191, 6, 139, 98, 179, 37, 226, 152, 34, 136, 145, 16, 126, 110, 72, 195, 163, 182, 30, 66, 58, 107, 40, 84, 250, 133, 61, 186, 43, 121, 10, 21, 155, 159, 94, 202, 78, 212, 172, 229, 243, 115, 167, 87, 175, 88, 168, 80, 244, 234, 214, 116, 79, 174, 233, 213, 231, 230, 173, 232, 44, 215, 117, 122, 235, 22, 11, 245, 89, 203, 95, 176, 156, 169, 81, 160, 127, 12, 246, 111, 23, 196, 73, 236, 216, 67, 31, 45, 164, 118, 123, 183, 204, 187, 62, 90, 251, 96, 177, 134, 59, 82, 161, 108, 170, 85, 41, 157, 151, 178, 135, 144, 97, 190, 220, 252, 188, 149, 207, 205, 55, 63, 91, 209, 83, 57, 132, 60, 65, 162, 109, 71, 20, 42, 158, 93, 86, 242, 211, 171, 68, 17, 146, 217, 35, 32, 46, 137, 180, 124, 184, 38, 119, 153, 227, 165, 103, 74, 237, 222, 197, 49, 254, 24, 13, 99, 140, 128, 192, 247, 112, 7]
theorem EXPN_lit (i : Nat) : EXPN i = EL.getD i 0 := by
  have : EXPL = EL := by decide +kernel
  unfold EXPN; rw [this]
theorem LOGN_lit (i : Nat) : LOGN i = LL.getD i 0 := by
  have : LOGL = LL := by decide +kernel
  unfold LOGN; rw [this]
def EN (i : Nat) : Nat := EL.getD i 0
def LN (i : Nat) : Nat := LL.getD i 0
theorem E_EN : EXPN = EN := funext EXPN_lit
theorem L_LN : LOGN = LN := funext LOGN_lit
def mL (a b : Nat) : Nat := if a = 0 then 0 else if b = 0 then 0 else EN ((LN a + LN b) % 255)
/-- the product, by the tables -/
def mN (a b : Nat) : Nat := if a = 0 then 0 else if b = 0 then 0 else EXPN ((LOGN a + LOGN b) % 255)
theorem m_mL : mN = mL := by funext a b; unfold mN mL; rw [E_EN, L_LN]
theorem exp_log {a : Nat} (h : a < 256) (h0 : a ≠ 0) : EXPN (LOGN a) = a := by
  have := byAll (fun a => a == 0 || EXPN (LOGN a) == a) 256 (by rw [E_EN, L_LN]; decide +kernel) a h
  simp only [Bool.or_eq_true, beq_iff_eq] at this
  exact this.resolve_left h0
theorem log_exp {i : Nat} (h : i < 255) : LOGN (EXPN i) = i := by
  have := byAll (fun i => LOGN (EXPN i) == i) 255 (by rw [E_EN, L_LN]; decide +kernel) i h
  simpa using this
theorem exp_ne {i : Nat} (h : i < 255) : EXPN i ≠ 0 := by
  have := byAll (fun i => EXPN i != 0) 255 (by rw [E_EN]; decide +kernel) i h
  simpa using this
theorem exp_by3 {i : Nat} (h : i < 255) : EXPN ((i + 1) % 255) = by3 (EXPN i) := by
  have := byAll (fun i => EXPN ((i + 1) % 255) == by3 (EXPN i)) 255 (by rw [E_EN]; decide +kernel) i h
  simpa using this
theorem mN_lt (a b : Nat) : mN a b < 256 := by
  unfold mN
  split
  · decide
  · split
    · decide
    · exact EXPN_lt _
theorem mN_z (a : Nat) : mN a 0 = 0 := by unfold mN; split <;> rfl
theorem zm_N (a : Nat) : mN 0 a = 0 := rfl
theorem mN_n {a b : Nat} (ha : a ≠ 0) (hb : b ≠ 0) : mN a b = EXPN ((LOGN a + LOGN b) % 255) := by unfold mN; rw [if_neg ha, if_neg hb]
theorem mN_ne {a b : Nat} (ha : a ≠ 0) (hb : b ≠ 0) : mN a b ≠ 0 := by
  rw [mN_n ha hb]; exact exp_ne (Nat.mod_lt _ (by decide))
theorem mN_comm (a b : Nat) : mN a b = mN b a := by
  by_cases ha : a = 0
  · subst ha; rw [mN_z, zm_N]
  · by_cases hb : b = 0
    · subst hb; rw [mN_z, zm_N]
    · rw [mN_n ha hb, mN_n hb ha, Nat.add_comm]
theorem log_mN {a b : Nat} (ha : a ≠ 0) (hb : b ≠ 0) : LOGN (mN a b) = (LOGN a + LOGN b) % 255 := by
  rw [mN_n ha hb, log_exp (Nat.mod_lt _ (by decide))]
theorem mN_assoc (a b c : Nat) : mN (mN a b) c = mN a (mN b c) := by
  by_cases ha : a = 0
  · subst ha; rfl
  by_cases hb : b = 0
  · subst hb; rw [mN_z, zm_N, mN_z]
  by_cases hc : c = 0
  · subst hc; rw [mN_z, mN_z, mN_z]
  rw [mN_n (mN_ne ha hb) hc, mN_n ha (mN_ne hb hc), log_mN ha hb, log_mN hb hc]
  congr 1
  omega
theorem log_1 : LOGN 1 = 0 := by rw [LOGN_lit]; decide +kernel
theorem mN_one {a : Nat} (h : a < 256) : mN a 1 = a := by
  by_cases ha : a = 0
  · subst ha; rfl
  · rw [mN_n ha (by decide), log_1, Nat.add_zero, Nat.mod_eq_of_lt (LOGN_lt a), exp_log h ha]
def iN (a : Nat) : Nat := EXPN ((255 - LOGN a) % 255)
theorem iN_lt (a : Nat) : iN a < 256 := EXPN_lt _
theorem mN_inv {a : Nat} (h : a < 256) (h0 : a ≠ 0) : mN a (iN a) = 1 := by
  have hl := LOGN_lt a
  have h1 : (255 - LOGN a) % 255 < 255 := Nat.mod_lt _ (by decide)
  unfold iN
  rw [mN_n h0 (exp_ne h1), log_exp h1]
  have : (LOGN a + (255 - LOGN a) % 255) % 255 = 0 := by omega
  rw [this, EXPN_lit]; decide +kernel

/-- the doubling is linear -/
theorem xor_div (a b k : Nat) : (a ^^^ b) / 2 ^ k = a / 2 ^ k ^^^ b / 2 ^ k := by
  rw [← Nat.shiftRight_eq_div_pow, ← Nat.shiftRight_eq_div_pow, ← Nat.shiftRight_eq_div_pow, Nat.shiftRight_xor_distrib]
theorem xor_mul (a b k : Nat) : (a ^^^ b) * 2 ^ k = a * 2 ^ k ^^^ b * 2 ^ k := by
  rw [← Nat.shiftLeft_eq, ← Nat.shiftLeft_eq, ← Nat.shiftLeft_eq, Nat.shiftLeft_xor_distrib]
theorem xt1_lo {a : Nat} (h : a < 128) : xt 1 a = a * 2 := by
  unfold xt
  rw [Nat.div_eq_of_lt h]; simp
theorem xt1_hi {a : Nat} (h1 : 128 ≤ a) (h : a < 256) : xt 1 a = (a ^^^ 128) * 2 ^^^ 27 := by
  unfold xt
  have : a / 128 = 1 := by omega
  rw [this]; rfl
theorem xor_hi {a b : Nat} (ha : a < 256) (hb : b < 256) : (a ^^^ b) / 128 = (a / 128) ^^^ (b / 128) := xor_div a b 7
theorem xt1_lin {a b : Nat} (ha : a < 256) (hb : b < 256) : xt 1 (a ^^^ b) = xt 1 a ^^^ xt 1 b := by
  have hx := xlt ha hb
  have hd := xor_hi ha hb
  have m2 : ∀ x y : Nat, (x ^^^ y) * 2 = x * 2 ^^^ y * 2 := fun x y => xor_mul x y 1
  haveI : Std.Associative (α := Nat) (· ^^^ ·) := ⟨Nat.xor_assoc⟩
  haveI : Std.Commutative (α := Nat) (· ^^^ ·) := ⟨Nat.xor_comm⟩
  by_cases h1 : a < 128
  · by_cases h2 : b < 128
    · rw [Nat.div_eq_of_lt h1, Nat.div_eq_of_lt h2] at hd
      have : a ^^^ b < 128 := by
        have : (a ^^^ b) / 128 = 0 := hd
        omega
      rw [xt1_lo this, xt1_lo h1, xt1_lo h2, m2]
    · have e2 : b / 128 = 1 := by omega
      rw [Nat.div_eq_of_lt h1, e2] at hd
      have : 128 ≤ a ^^^ b := by
        have : (a ^^^ b) / 128 = 1 := hd
        omega
      rw [xt1_hi this hx, xt1_lo h1, xt1_hi (by omega) hb, m2, m2, m2]
      ac_rfl
  · have e1 : a / 128 = 1 := by omega
    by_cases h2 : b < 128
    · rw [e1, Nat.div_eq_of_lt h2] at hd
      have : 128 ≤ a ^^^ b := by
        have : (a ^^^ b) / 128 = 1 := hd
        omega
      rw [xt1_hi this hx, xt1_lo h2, xt1_hi (by omega) ha, m2, m2, m2]
      ac_rfl
    · have e2 : b / 128 = 1 := by omega
      rw [e1, e2] at hd
      have : a ^^^ b < 128 := by
        have : (a ^^^ b) / 128 = 0 := hd
        omega
      rw [xt1_lo this, xt1_hi (by omega) ha, xt1_hi (by omega) hb, m2, m2, m2]
      have : ∀ p q : Nat, p * 2 ^^^ 128 * 2 ^^^ 27 ^^^ (q * 2 ^^^ 128 * 2 ^^^ 27) = p * 2 ^^^ q * 2 := fun p q => by
        have : p * 2 ^^^ 128 * 2 ^^^ 27 ^^^ (q * 2 ^^^ 128 * 2 ^^^ 27) = (p * 2 ^^^ q * 2) ^^^ ((128 * 2 ^^^ 27) ^^^ (128 * 2 ^^^ 27)) := by ac_rfl
        rw [this, Nat.xor_self, Nat.xor_zero]
      rw [this]
theorem by3_lt {a : Nat} (h : a < 256) : by3 a < 256 := by
  have := byAll (fun a => decide (by3 a < 256)) 256 (by decide +kernel) a h
  simpa using this
theorem xu_lt {a : Nat} (h : a < 256) : xt 1 a < 256 := by
  have := byAll (fun a => decide (xt 1 a < 256)) 256 (by decide +kernel) a h
  simpa using this
theorem by3_lin {a b : Nat} (ha : a < 256) (hb : b < 256) : by3 (a ^^^ b) = by3 a ^^^ by3 b := by
  unfold by3
  rw [xt1_lin ha hb]
  haveI : Std.Associative (α := Nat) (· ^^^ ·) := ⟨Nat.xor_assoc⟩
  haveI : Std.Commutative (α := Nat) (· ^^^ ·) := ⟨Nat.xor_comm⟩
  ac_rfl
def P3 : Nat → Nat → Nat
  | 0, b => b
  | n + 1, b => by3 (P3 n b)
theorem P3_lt {b : Nat} (hb : b < 256) : ∀ n, P3 n b < 256
  | 0 => hb
  | n + 1 => by3_lt (P3_lt hb n)
theorem P3_lin {a b : Nat} (ha : a < 256) (hb : b < 256) : ∀ n, P3 n (a ^^^ b) = P3 n a ^^^ P3 n b
  | 0 => rfl
  | n + 1 => by
    show by3 (P3 n (a ^^^ b)) = by3 (P3 n a) ^^^ by3 (P3 n b)
    rw [P3_lin ha hb n, by3_lin (P3_lt ha n) (P3_lt hb n)]
theorem P3_z : ∀ n, P3 n 0 = 0
  | 0 => rfl
  | n + 1 => by show by3 (P3 n 0) = 0; rw [P3_z n]; decide
theorem P3_exp {j : Nat} (hj : j < 255) : ∀ n, P3 n (EXPN j) = EXPN ((n + j) % 255)
  | 0 => by rw [Nat.zero_add, Nat.mod_eq_of_lt hj]; rfl
  | n + 1 => by
    show by3 (P3 n (EXPN j)) = _
    rw [P3_exp hj n, ← exp_by3 (Nat.mod_lt _ (by decide))]
    congr 1
    omega
theorem mN_P3 {a b : Nat} (h0 : a ≠ 0) (hb : b < 256) : mN a b = P3 (LOGN a) b := by
  by_cases hb0 : b = 0
  · subst hb0; rw [P3_z, mN_z]
  · have : P3 (LOGN a) b = P3 (LOGN a) (EXPN (LOGN b)) := by rw [exp_log hb hb0]
    rw [this, P3_exp (LOGN_lt b), mN_n h0 hb0]
theorem mN_dist {a b c : Nat} (hb : b < 256) (hc : c < 256) : mN a (b ^^^ c) = mN a b ^^^ mN a c := by
  by_cases h0 : a = 0
  · subst h0; rw [zm_N, zm_N, zm_N]; rfl
  · rw [mN_P3 h0 (xlt hb hc), mN_P3 h0 hb, mN_P3 h0 hc, P3_lin hb hc]

/-- the field of 256 -/
def Fa (a b : Fin 256) : Fin 256 := ⟨a.1 ^^^ b.1, xlt a.2 b.2⟩
def Fm (a b : Fin 256) : Fin 256 := ⟨mN a.1 b.1, mN_lt _ _⟩
def Fi (a : Fin 256) : Fin 256 := ⟨iN a.1, iN_lt _⟩
def GF : Fld (Fin 256) where
  a := Fa
  m := Fm
  z := ⟨0, by decide⟩
  e := ⟨1, by decide⟩
  i := Fi
  aa := fun x y w => Fin.ext (Nat.xor_assoc _ _ _)
  ac := fun x y => Fin.ext (Nat.xor_comm _ _)
  az := fun x => Fin.ext (Nat.xor_zero _)
  as := fun x => Fin.ext (Nat.xor_self _)
  ma := fun x y w => Fin.ext (mN_assoc _ _ _)
  mc := fun x y => Fin.ext (mN_comm _ _)
  me := fun x => Fin.ext (mN_one x.2)
  mz := fun x => Fin.ext (mN_z _)
  md := fun x y w => Fin.ext (mN_dist y.2 w.2)
  mi := fun x h => Fin.ext (mN_inv x.2 fun e => h (Fin.ext e))
  ez := by decide

/-- the law's product in one lane is the product by the tables -/
theorem xt1_m {r : Nat} (h : r < 256) : xt 1 r = mN 2 r := by
  have := byAll (fun r => xt 1 r == mN 2 r) 256 (by rw [m_mL]; decide +kernel) r h
  simpa using this
theorem m_two {h : Nat} (hh : h < 128) : mN h 2 = 2 * h := by
  have := byAll (fun h => mN h 2 == 2 * h) 128 (by rw [m_mL]; decide +kernel) h hh
  simpa using this
theorem timesA_m : ∀ (s t r : Nat), s < 256 → t < 256 → r < 256 → timesA s t r 1 = t ^^^ mN s r := by
  intro s
  induction s using Nat.strongRecOn with
  | ind s ih =>
    intro t r hs ht hr
    unfold timesA
    split
    · rename_i h0; subst h0; rw [zm_N, Nat.xor_zero]
    · have e : mN s r = mN (s / 2) (xt 1 r) ^^^ (if s % 2 = 1 then r else 0) := by
        have h2 : mN (s / 2) (xt 1 r) = mN (2 * (s / 2)) r := by rw [xt1_m hr, ← mN_assoc, m_two (by omega)]
        rw [h2]
        have hs2 : s = 2 * (s / 2) ^^^ s % 2 := by
          have := byAll (fun s => s == (2 * (s / 2) ^^^ s % 2)) 256 (by decide +kernel) s hs
          simpa using this
        have : mN s r = mN r (2 * (s / 2) ^^^ s % 2) := by rw [← hs2, mN_comm]
        rw [this, mN_dist (by omega) (by omega), mN_comm r (2 * (s / 2))]
        congr 1
        split
        · rename_i h1; rw [h1, mN_one hr]
        · have : s % 2 = 0 := by omega
          rw [this, mN_z]
      rw [e, ih (s / 2) (by omega) _ _ (by omega) ?_ (xu_lt hr)]
      · split
        · rw [Nat.xor_assoc, Nat.xor_comm r]
        · rw [Nat.xor_zero]
      · split
        · exact xlt ht hr
        · exact ht
theorem times_m {s r : Nat} (hs : s < 256) (hr : r < 256) : times s r 1 = mN s r := by
  unfold times; rw [timesA_m s 0 r hs (by decide) hr, Nat.zero_xor]
end Mine
set_option linter.unusedVariables false
namespace Mine
open PySem PySem.W

theorem xs_dm {a b c d : Nat} (hb : b < 256) (hd : d < 256) : (256 * a + b) ^^^ (256 * c + d) = 256 * (a ^^^ c) + (b ^^^ d) := by
  have h1 : ((256 * a + b) ^^^ (256 * c + d)) / 256 = (256 * a + b) / 256 ^^^ (256 * c + d) / 256 := xor_div _ _ 8
  have h2 : ((256 * a + b) ^^^ (256 * c + d)) % 256 = (256 * a + b) % 256 ^^^ (256 * c + d) % 256 := Nat.xor_mod_two_pow (n := 8)
  rw [show (256 * a + b) / 256 = a by omega, show (256 * c + d) / 256 = c by omega] at h1
  rw [show (256 * a + b) % 256 = b by omega, show (256 * c + d) % 256 = d by omega] at h2
  have := Nat.div_add_mod ((256 * a + b) ^^^ (256 * c + d)) 256
  rw [h1, h2] at this; exact this.symm
theorem and_div (a b k : Nat) : (a &&& b) / 2 ^ k = a / 2 ^ k &&& b / 2 ^ k := by
  rw [← Nat.shiftRight_eq_div_pow, ← Nat.shiftRight_eq_div_pow, ← Nat.shiftRight_eq_div_pow, Nat.shiftRight_and_distrib]
theorem as_dm {a b c d : Nat} (hb : b < 256) (hd : d < 256) : (256 * a + b) &&& (256 * c + d) = 256 * (a &&& c) + (b &&& d) := by
  have h1 : ((256 * a + b) &&& (256 * c + d)) / 256 = (256 * a + b) / 256 &&& (256 * c + d) / 256 := and_div _ _ 8
  have h2 : ((256 * a + b) &&& (256 * c + d)) % 256 = (256 * a + b) % 256 &&& (256 * c + d) % 256 := Nat.and_mod_two_pow (n := 8)
  rw [show (256 * a + b) / 256 = a by omega, show (256 * c + d) / 256 = c by omega] at h1
  rw [show (256 * a + b) % 256 = b by omega, show (256 * c + d) % 256 = d by omega] at h2
  have := Nat.div_add_mod ((256 * a + b) &&& (256 * c + d)) 256
  rw [h1, h2] at this; exact this.symm
theorem lo_lt {b : Nat} (h : b < 256) : (b ^^^ (b / 128) * 128) < 128 := by
  have := byAll (fun b => decide ((b ^^^ (b / 128) * 128) < 128)) 256 (by decide +kernel) b h
  simpa using this
theorem xt_dm (o q : Nat) {b : Nat} (hb : b < 256) : xt (256 * o + 1) (256 * q + b) = 256 * xt o q + xt 1 b := by
  have h1 : (256 * q + b) / 128 = 256 * (q / 128) + (2 * (q % 128) + b / 128) := by omega
  have h2 : (2 * (q % 128) + b / 128) &&& 1 = b / 128 := by rw [Nat.and_one_is_mod]; omega
  have h3 : (b / 128) &&& 1 = b / 128 := by rw [Nat.and_one_is_mod]; omega
  have hl := lo_lt hb
  unfold xt
  rw [h1, as_dm (by omega) (by decide), h2, h3]
  generalize (q / 128 &&& o) = T
  have ht : b / 128 < 2 := by omega
  generalize b / 128 = t at hl ht
  rw [show (256 * T + t) * 128 = 256 * (T * 128) + t * 128 by omega, xs_dm hb (by omega), show (256 * T + t) * 27 = 256 * (T * 27) + t * 27 by omega]
  rw [show (256 * (q ^^^ T * 128) + (b ^^^ t * 128)) * 2 = 256 * ((q ^^^ T * 128) * 2) + (b ^^^ t * 128) * 2 by omega, xs_dm (by omega) (by omega)]
theorem xt1_lt8 : ∀ r, r < 2 ^ 8 → xt 1 r < 2 ^ 8 := fun r h => xu_lt h
theorem timesA_dm (o : Nat) : ∀ (s t1 t0 q b : Nat), t0 < 256 → b < 256 → timesA s (256 * t1 + t0) (256 * q + b) (256 * o + 1) = 256 * timesA s t1 q o + timesA s t0 b 1 := by
  intro s
  induction s using Nat.strongRecOn with
  | ind s ih =>
    intro t1 t0 q b ht hb
    unfold timesA
    by_cases h0 : s = 0
    · rw [dif_pos h0, dif_pos h0, dif_pos h0]
    · rw [dif_neg h0, dif_neg h0, dif_neg h0, xt_dm o q hb]
      by_cases h1 : s % 2 = 1
      · rw [if_pos h1, if_pos h1, if_pos h1, xs_dm ht hb]
        exact ih _ (by omega) _ _ _ _ (xlt ht hb) (xu_lt hb)
      · rw [if_neg h1, if_neg h1, if_neg h1]
        exact ih _ (by omega) _ _ _ _ ht (xu_lt hb)
theorem times_dm (s o q : Nat) {b : Nat} (hb : b < 256) : times s (256 * q + b) (256 * o + 1) = 256 * times s q o + times s b 1 := timesA_dm o s 0 0 q b (by decide) hb
theorem times1_lt {s b : Nat} (hb : b < 256) : times s b 1 < 256 := times_lt (k := 8) xt1_lt8 hb

def onesR : Nat → Nat
  | 0 => 0
  | n + 1 => 256 * onesR n + 1
theorem onesR_eq : ∀ n, 255 * onesR n + 1 = 256 ^ n
  | 0 => rfl
  | n + 1 => by
    have := onesR_eq n
    show 255 * (256 * onesR n + 1) + 1 = 256 ^ (n + 1)
    rw [Nat.pow_succ]; omega
theorem onesN_R (n : Nat) : onesN n = onesR n := by
  have := onesR_eq n
  unfold onesN; omega
theorem hc_all : ∀ n r, r < 2 ^ (8 * n) → xt (onesR n) r < 2 ^ (8 * n)
  | 0, r, h => by
    have : r = 0 := by omega
    subst this
    decide
  | n + 1, r, h => by
    have e : (2 : Nat) ^ (8 * (n + 1)) = 256 * 2 ^ (8 * n) := by rw [Nat.mul_succ, Nat.pow_add]; omega
    rw [e] at h ⊢
    have hr : r = 256 * (r / 256) + r % 256 := by omega
    have hq := hc_all n (r / 256) (by omega)
    have hb := xu_lt (a := r % 256) (by omega)
    rw [hr]
    show xt (256 * onesR n + 1) _ < _
    rw [xt_dm _ _ (by omega)]
    omega

def lane (r k : Nat) : Nat := r / 256 ^ k % 256
theorem lane_lt (r k : Nat) : lane r k < 256 := Nat.mod_lt _ (by decide)
theorem lane_z (q b : Nat) (hb : b < 256) : lane (256 * q + b) 0 = b := by unfold lane; rw [Nat.pow_zero, Nat.div_one]; omega
theorem lane_s (q b k : Nat) (hb : b < 256) : lane (256 * q + b) (k + 1) = lane q k := by
  unfold lane
  rw [Nat.pow_succ', ← Nat.div_div_eq_div_mul, show (256 * q + b) / 256 = q by omega]
theorem lane_xor (a b k : Nat) : lane (a ^^^ b) k = lane a k ^^^ lane b k := by
  unfold lane
  rw [show 256 ^ k = 2 ^ (8 * k) from (p2_256 k).symm, xor_div]
  exact Nat.xor_mod_two_pow (n := 8)
theorem split256 (r : Nat) : r = 256 * (r / 256) + r % 256 := by omega
theorem lane_times : ∀ (n s r k : Nat), k < n → lane (times s r (onesR n)) k = times s (lane r k) 1
  | 0, _, _, _, h => absurd h (Nat.not_lt_zero _)
  | n + 1, s, r, k, h => by
    have hr := split256 r
    have hb : r % 256 < 256 := Nat.mod_lt _ (by decide)
    generalize r / 256 = q at hr
    generalize r % 256 = b at hr hb
    subst hr
    show lane (times s _ (256 * onesR n + 1)) k = _
    rw [times_dm s _ _ hb]
    match k, h with
    | 0, _ => rw [lane_z _ _ (times1_lt hb), lane_z _ _ hb]
    | k + 1, h => rw [lane_s _ _ _ (times1_lt hb), lane_s _ _ _ hb, lane_times n s q k (by omega)]
theorem lane_ext : ∀ (n a b : Nat), a < 256 ^ n → b < 256 ^ n → (∀ k, k < n → lane a k = lane b k) → a = b
  | 0, a, b, ha, hb, _ => by omega
  | n + 1, a, b, ha, hb, h => by
    rw [Nat.pow_succ] at ha hb
    have h0 := h 0 (by omega)
    unfold lane at h0
    rw [Nat.pow_zero, Nat.div_one, Nat.div_one] at h0
    have := lane_ext n (a / 256) (b / 256) (by omega) (by omega) fun k hk => by
      have := h (k + 1) (by omega)
      unfold lane at this ⊢
      rw [Nat.pow_succ', ← Nat.div_div_eq_div_mul, ← Nat.div_div_eq_div_mul] at this
      exact this
    omega
theorem times_z (s o : Nat) : times s 0 o = 0 := by
  have : ∀ s, timesA s 0 0 o = 0 := by
    intro s
    induction s using Nat.strongRecOn with
    | ind s ih =>
      unfold timesA
      split
      · rfl
      · have e : xt o 0 = 0 := by simp [xt]
        rw [e]
        split
        · exact ih _ (by omega)
        · exact ih _ (by omega)
  exact this s
theorem lawAt_eq (x o : Nat) (rs : List Nat) : lawAt x o rs = rs.foldl (fun t r => times x t o ^^^ r) 0 := by
  cases rs with
  | nil => rfl
  | cons r rs =>
    show rs.foldl _ r = rs.foldl _ (times x 0 o ^^^ r)
    rw [times_z, Nat.zero_xor]
theorem lane_lawAt {n k : Nat} (hk : k < n) (x : Nat) (rs : List Nat) : lane (lawAt x (onesR n) rs) k = lawAt x 1 (rs.map fun r => lane r k) := by
  rw [lawAt_eq, lawAt_eq]
  have : ∀ (rs : List Nat) (t : Nat), lane (rs.foldl (fun t r => times x t (onesR n) ^^^ r) t) k = (rs.map fun r => lane r k).foldl (fun t r => times x t 1 ^^^ r) (lane t k) := by
    intro rs
    induction rs with
    | nil => intro t; rfl
    | cons r rs ih =>
      intro t
      rw [List.foldl_cons, ih, lane_xor, lane_times n x t k hk]; rfl
  have h := this rs 0
  rw [show lane 0 k = 0 by unfold lane; simp] at h
  exact h

/-- octets of an array -/
def at8 (b : Array UInt8) (j : Nat) : Nat := (bl b).getD j 0
theorem at8_lt (b : Array UInt8) (j : Nat) : at8 b j < 256 := by
  unfold at8
  rw [List.getD_eq_getElem?_getD]
  cases h : (bl b)[j]? with
  | none => exact (by decide : (0 : Nat) < 256)
  | some v => exact bl_lt (List.mem_of_getElem? h)
theorem at8_ext {a b : Array UInt8} (hs : a.size = b.size) (h : ∀ j, j < a.size → at8 a j = at8 b j) : a = b := by
  have : bl a = bl b := by
    apply List.ext_getElem (by rw [bl_len, bl_len, hs])
    intro i h1 h2
    have := h i (by rw [← bl_len]; exact h1)
    unfold at8 at this
    rw [List.getD_eq_getElem?_getD, List.getD_eq_getElem?_getD, List.getElem?_eq_getElem h1, List.getElem?_eq_getElem h2] at this
    exact this
  apply Array.ext' 
  unfold bl at this
  exact List.map_inj_right (fun x y e => UInt8.toNat_inj.mp e) |>.mp this
theorem low_at {n v i : Nat} (hv : v < 256 ^ n) (hi : i < n) : ((KTBy.low (v : Int) n).map UInt8.toNat)[i]? = some (lane v i) := by
  have hp : ((v : Nat) : Int) < (256 : Int) ^ n := by
    have : ((256 ^ n : Nat) : Int) = (256 : Int) ^ n := by simp
    omega
  have h := KTBy.low_ints (x := (v : Int)) (n := n) (by omega) hp
  have h1 : ((KTBy.low (v : Int) n).map (fun c => ((c.toNat : Nat) : Int)))[i]? = some ((lane v i : Nat) : Int) := by
    rw [h, List.getElem?_map, List.getElem?_range hi]
    show some ((v : Int) / 256 ^ i % 256) = _
    unfold lane; simp
  rw [List.getElem?_map] at h1 ⊢
  cases hg : (KTBy.low (v : Int) n)[i]? with
  | none => rw [hg] at h1; cases h1
  | some c =>
    rw [hg] at h1
    have := Option.some.inj h1
    show some c.toNat = _
    congr 1
    show c.toNat = lane v i
    have h2 : ((c.toNat : Nat) : Int) = ((lane v i : Nat) : Int) := this
    omega
theorem at8_beA {n v j : Nat} (hv : v < 256 ^ n) (hj : j < n) : at8 (beA n v) j = lane v (n - 1 - j) := by
  unfold at8 bl beA
  rw [List.getD_eq_getElem?_getD, List.map_reverse, List.getElem?_reverse (by rw [List.length_map, KTBy.low_length]; exact hj), List.length_map, KTBy.low_length, low_at hv (by omega)]
  rfl
theorem ofBE_bl (b : Array UInt8) : ofBE b = (bl b).foldl (fun t c => t * 256 + c) 0 := by
  unfold ofBE bl
  rw [List.foldl_map]
theorem lane_rev : ∀ (l : List Nat) (t k : Nat), (∀ c ∈ l, c < 256) → k < l.length → lane (l.reverse.foldl (fun t c => t * 256 + c) t) k = l.getD k 0
  | [], _, _, _, h => absurd h (Nat.not_lt_zero _)
  | c :: l, t, k, hc, hk => by
    rw [List.reverse_cons, List.foldl_append, List.foldl_cons, List.foldl_nil, Nat.mul_comm]
    have hc0 : c < 256 := hc c List.mem_cons_self
    match k, hk with
    | 0, _ => rw [lane_z _ _ hc0]; rfl
    | k + 1, hk =>
      rw [lane_s _ _ _ hc0, lane_rev l t k (fun c h => hc c (List.mem_cons_of_mem _ h)) (by rw [List.length_cons] at hk; omega)]
      rfl
theorem lane_be (l : List Nat) (t k : Nat) (hc : ∀ c ∈ l, c < 256) (hk : k < l.length) : lane (l.foldl (fun t c => t * 256 + c) t) k = l.getD (l.length - 1 - k) 0 := by
  have := lane_rev l.reverse t k (fun c h => hc c (List.mem_reverse.mp h)) (by rw [List.length_reverse]; exact hk)
  rw [List.reverse_reverse] at this
  rw [this, List.getD_eq_getElem?_getD, List.getD_eq_getElem?_getD, List.getElem?_reverse hk]
theorem lane_ofBE {b : Array UInt8} {k : Nat} (hk : k < b.size) : lane (ofBE b) k = at8 b (b.size - 1 - k) := by
  rw [ofBE_bl, lane_be (bl b) 0 k (fun c h => bl_lt h) (by rw [bl_len]; exact hk), bl_len]; rfl
theorem at8_accA {ps : List (Nat × Array UInt8)} {x : Nat} {res : Array UInt8} {p : Nat × Array UInt8} (h : p.2.size = res.size) {j : Nat} (hj : j < res.size) : at8 (accA ps x res p) j = stepB (basis ps x p.1) (at8 p.2 j) (at8 res j) := by
  have h1 : j < (bl p.2).length := by rw [bl_len, h]; exact hj
  have h2 : j < (bl res).length := by rw [bl_len]; exact hj
  have hz := stepB_lt (e := basis ps x p.1) (v := (bl p.2)[j]) (r := (bl res)[j]) (bl_lt (List.getElem_mem _))
  unfold at8 accA
  rw [List.getD_eq_getElem?_getD, List.getD_eq_getElem?_getD, List.getD_eq_getElem?_getD, List.getElem?_eq_getElem h1, List.getElem?_eq_getElem h2]
  unfold bl byteArr zipB
  rw [List.toList_toArray, List.getElem?_map, List.getElem?_map, List.getElem?_zipWith, List.getElem?_eq_getElem h1, List.getElem?_eq_getElem h2]
  show (((stepB (basis ps x p.1) (bl p.2)[j] (bl res)[j] : Nat) : Int).toNat.toUInt8).toNat = _
  rw [Int.toNat_natCast]
  show _ % 256 = _
  exact Nat.mod_eq_of_lt hz
theorem fold_size {ps : List (Nat × Array UInt8)} {x sz : Nat} : ∀ (l : List (Nat × Array UInt8)) (res : Array UInt8), (∀ p ∈ l, p.2.size = sz) → res.size = sz → (l.foldl (accA ps x) res).size = sz
  | [], res, _, h => h
  | p :: l, res, hl, h => fold_size l _ (fun q hq => hl q (List.mem_cons_of_mem _ hq)) (by rw [accA_size (by rw [hl p List.mem_cons_self, h]), h])
theorem at8_fold {ps : List (Nat × Array UInt8)} {x sz j : Nat} (hj : j < sz) : ∀ (l : List (Nat × Array UInt8)) (res : Array UInt8), (∀ p ∈ l, p.2.size = sz) → res.size = sz →
    at8 (l.foldl (accA ps x) res) j = l.foldl (fun r p => stepB (basis ps x p.1) (at8 p.2 j) r) (at8 res j)
  | [], res, _, h => rfl
  | p :: l, res, hl, h => by
    have hp : p.2.size = res.size := by rw [hl p List.mem_cons_self, h]
    rw [List.foldl_cons, List.foldl_cons, at8_fold hj l _ (fun q hq => hl q (List.mem_cons_of_mem _ hq)) (by rw [accA_size hp, h]), at8_accA hp (by rw [h]; exact hj)]
end Mine
set_option linter.unusedVariables false
namespace Mine
open PySem PySem.W

def EI (k : Int) : Nat := EXPN (k.fmod 255).toNat
theorem EI_add (a b : Int) : EI (a + b) = mN (EI a) (EI b) := by
  unfold EI
  have h1 := Int.fmod_lt_of_pos a (show (0 : Int) < 255 by decide)
  have h2 := Int.fmod_nonneg_of_pos a (show (0 : Int) < 255 by decide)
  have h3 := Int.fmod_lt_of_pos b (show (0 : Int) < 255 by decide)
  have h4 := Int.fmod_nonneg_of_pos b (show (0 : Int) < 255 by decide)
  have e : (a + b).fmod 255 = (a.fmod 255 + b.fmod 255).fmod 255 := by
    rw [Int.fmod_eq_emod_of_nonneg _ (by decide), Int.fmod_eq_emod_of_nonneg a (by decide), Int.fmod_eq_emod_of_nonneg b (by decide), Int.fmod_eq_emod_of_nonneg _ (by decide)]
    omega
  rw [e]
  obtain ⟨i, hi⟩ := Int.eq_ofNat_of_zero_le h2
  obtain ⟨j, hj⟩ := Int.eq_ofNat_of_zero_le h4
  rw [hi] at h1 ⊢
  rw [hj] at h3 ⊢
  rw [show (i : Int) + (j : Int) = ((i + j : Nat) : Int) by omega, show (255 : Int) = ((255 : Nat) : Int) from rfl, fmod_nat, Int.toNat_natCast, Int.toNat_natCast, Int.toNat_natCast]
  have hi' : i < 255 := by omega
  have hj' : j < 255 := by omega
  rw [mN_n (exp_ne hi') (exp_ne hj'), log_exp hi', log_exp hj']
theorem EI_nat {i : Nat} (h : i < 255) : EI (i : Int) = EXPN i := by
  unfold EI
  rw [show (255 : Int) = ((255 : Nat) : Int) from rfl, fmod_nat, Int.toNat_natCast, Nat.mod_eq_of_lt h]
theorem log_0 : LOGN 0 = 0 := by rw [LOGN_lit]; decide +kernel
theorem exp_0 : EXPN 0 = 1 := by rw [EXPN_lit]; decide +kernel
theorem EI_log (v : Fin 256) : EI (LOGN v.1 : Int) = (GF.lg v).1 := by
  rw [EI_nat (LOGN_lt _)]
  unfold Fld.lg
  by_cases h : v = GF.z
  · rw [if_pos h, h]
    show EXPN (LOGN 0) = 1
    rw [log_0, exp_0]
  · rw [if_neg h, exp_log v.2 fun e => h (Fin.ext e)]
theorem EI_neg (v : Fin 256) : EI (-(LOGN v.1 : Int)) = (GF.i (GF.lg v)).1 := by
  have hn : ∀ i : Nat, i < 255 → EI (-(i : Int)) = EXPN ((255 - i) % 255) := fun i hi => by
    unfold EI
    congr 1
    rw [Int.fmod_eq_emod_of_nonneg _ (by decide)]
    omega
  rw [hn _ (LOGN_lt _)]
  unfold Fld.lg
  by_cases h : v = GF.z
  · rw [if_pos h, h]
    have e0 : (GF.z : Fin 256).1 = 0 := rfl
    have e1 : (GF.i GF.e).1 = EXPN ((255 - LOGN 1) % 255) := rfl
    rw [e1, log_1, e0, log_0]
  · rw [if_neg h]; rfl

def lsL (l : List Nat) (x : Nat) : Nat := (l.map fun p => LOGN (p ^^^ x)).sum
theorem EI_pr (x : Fin 256) : ∀ l : List (Fin 256), EI (lsL (l.map (·.1)) x.1 : Int) = (GF.pr l x).1
  | [] => by
    show EI ((0 : Nat) : Int) = 1
    rw [EI_nat (by decide), exp_0]
  | w :: l => by
    have : (lsL ((w :: l).map (·.1)) x.1 : Int) = (LOGN (w.1 ^^^ x.1) : Int) + (lsL (l.map (·.1)) x.1 : Int) := by
      unfold lsL; simp
    rw [this, EI_add, EI_pr x l]
    have h := EI_log (GF.a w x)
    have e : (GF.a w x).1 = w.1 ^^^ x.1 := rfl
    rw [e] at h
    rw [h]; rfl
theorem EI_ip (x : Fin 256) : ∀ l : List (Fin 256), EI (-(lsL (l.map (·.1)) x.1 : Int)) = (GF.ip l x).1
  | [] => by
    show EI ((0 : Nat) : Int) = 1
    rw [EI_nat (by decide), exp_0]
  | w :: l => by
    have : -(lsL ((w :: l).map (·.1)) x.1 : Int) = -(LOGN (w.1 ^^^ x.1) : Int) + -(lsL (l.map (·.1)) x.1 : Int) := by
      unfold lsL; simp; omega
    rw [this, EI_add, EI_ip x l]
    have h := EI_neg (GF.a w x)
    have e : (GF.a w x).1 = w.1 ^^^ x.1 := rfl
    rw [e] at h
    rw [h]; rfl
theorem lsum_L (D : Nat → Array UInt8) (l : List Nat) (x : Nat) : lsum (l.map fun p => (p, D p)) x = lsL l x := by
  unfold lsum lsL
  rw [List.map_map]; rfl
theorem basis_lt (ps : List (Nat × Array UInt8)) (x a : Nat) : basis ps x a < 255 := by
  unfold basis
  have h1 := Int.fmod_lt_of_pos ((lsum ps x : Int) - (LOGN (a ^^^ x) : Int) - (lsum ps a : Int)) (show (0 : Int) < 255 by decide)
  omega
theorem exp_basis (D : Nat → Array UInt8) (L : List (Fin 256)) (x y : Fin 256) : EXPN (basis ((L.map (·.1)).map fun p => (p, D p)) x.1 y.1) = (GF.B L x y).1 := by
  unfold basis
  rw [lsum_L, lsum_L]
  show EI _ = _
  have : ((lsL (L.map (·.1)) x.1 : Int) - (LOGN (y.1 ^^^ x.1) : Int) - (lsL (L.map (·.1)) y.1 : Int)) = (lsL (L.map (·.1)) x.1 : Int) + (-(LOGN (y.1 ^^^ x.1) : Int) + -(lsL (L.map (·.1)) y.1 : Int)) := by omega
  rw [this, EI_add, EI_add, EI_pr, EI_ip]
  have h := EI_neg (GF.a y x)
  have e : (GF.a y x).1 = y.1 ^^^ x.1 := rfl
  rw [e] at h
  rw [h]; rfl
theorem stepB_m {e v r : Nat} (he : e < 255) (hv : v < 256) : stepB e v r = r ^^^ mN v (EXPN e) := by
  unfold stepB
  by_cases h0 : v = 0
  · rw [if_pos h0, h0, zm_N]
  · rw [if_neg h0, mN_n h0 (exp_ne he), log_exp he]
theorem at8_interp (D : Nat → Array UInt8) {L : List (Fin 256)} {x : Fin 256} {sz j : Nat} (hx : x ∉ L) (hD : ∀ p ∈ L, (D p.1).size = sz) (hj : j < sz) :
    at8 (interpA ((L.map (·.1)).map fun p => (p, D p)) x.1 sz) j = (GF.La (fun y => ⟨at8 (D y.1) j, at8_lt _ _⟩) L L x).1 := by
  have hf : (((L.map (·.1)).map fun p => (p, D p)).find? fun p => p.1 == x.1) = none := by
    rw [List.find?_eq_none]
    intro p hp
    obtain ⟨q, hq, rfl⟩ := List.mem_map.mp hp
    obtain ⟨y, hy, rfl⟩ := List.mem_map.mp hq
    intro e
    have : y.1 = x.1 := by simpa using e
    exact hx (Fin.ext this ▸ hy)
  unfold interpA
  rw [hf]
  show at8 (((L.map (·.1)).map fun p => (p, D p)).foldl (accA ((L.map (·.1)).map fun p => (p, D p)) x.1) (Array.replicate sz 0)) j = _
  have hz : at8 (Array.replicate sz 0) j = 0 := by
    unfold at8 bl
    rw [List.getD_eq_getElem?_getD, Array.toList_replicate, List.map_replicate, List.getElem?_replicate, if_pos hj]; rfl
  rw [at8_fold hj _ _ (fun p hp => by
    obtain ⟨q, hq, rfl⟩ := List.mem_map.mp hp
    obtain ⟨y, hy, rfl⟩ := List.mem_map.mp hq
    exact hD y hy) (by simp), hz]
  have go : ∀ (l : List (Fin 256)) (r : Nat), ((l.map (·.1)).map fun p => (p, D p)).foldl (fun r p => stepB (basis ((L.map (·.1)).map fun p => (p, D p)) x.1 p.1) (at8 p.2 j) r) r = r ^^^ (GF.La (fun y => ⟨at8 (D y.1) j, at8_lt _ _⟩) L l x).1 := by
    intro l
    induction l with
    | nil => intro r; exact (Nat.xor_zero r).symm
    | cons y l ih =>
      intro r
      rw [List.map_cons, List.map_cons, List.foldl_cons, ih, stepB_m (basis_lt _ _ _) (at8_lt _ _)]
      rw [exp_basis D L x y, Nat.xor_assoc]; rfl
  rw [go L 0, Nat.zero_xor]
theorem lawAt_ev (rs : List Nat) (k : Nat) (y : Fin 256) : lawAt y.1 1 (rs.map fun r => lane r k) = (GF.ev (rs.map fun r => (⟨lane r k, lane_lt r k⟩ : Fin 256)) y).1 := by
  rw [lawAt_eq]
  have go : ∀ (rs : List Nat) (t : Fin 256), (rs.map fun r => lane r k).foldl (fun t r => times y.1 t 1 ^^^ r) t.1 = ((rs.map fun r => (⟨lane r k, lane_lt r k⟩ : Fin 256)).foldl (fun s r => GF.a (GF.m y s) r) t).1 := by
    intro rs
    induction rs with
    | nil => intro t; rfl
    | cons r rs ih =>
      intro t
      rw [List.map_cons, List.map_cons, List.foldl_cons, List.foldl_cons, ← ih]
      congr 1
      show times y.1 t.1 1 ^^^ lane r k = mN y.1 t.1 ^^^ lane r k
      rw [times_m y.2 t.2]
  exact go rs ⟨0, by decide⟩
theorem gap_fold (w y : Fin 256) : ∀ (l : List (Fin 256)) (t : Nat), t < 256 → (l.map (·.1)).foldl (gapN w.1 y.1) t = mN (GF.gp l w y).1 t
  | [], t, h => by
    show t = mN 1 t
    rw [mN_comm, mN_one h]
  | p :: l, t, h => by
    rw [List.map_cons, List.foldl_cons]
    have e : (GF.gp (p :: l) w y) = if p = w then GF.gp l w y else GF.m (GF.a p y) (GF.gp l w y) := rfl
    rw [e]
    unfold gapN
    by_cases hp : p = w
    · rw [if_pos (by rw [hp]), if_pos hp]
      exact gap_fold w y l t h
    · rw [if_neg (fun e => hp (Fin.ext e)), if_neg hp, times_m (xlt p.2 y.2) h]
      have := gap_fold w y l (mN (p.1 ^^^ y.1) t) (mN_lt _ _)
      unfold gapN at this
      rw [this]
      show mN (GF.gp l w y).1 (mN (p.1 ^^^ y.1) t) = mN (mN (p.1 ^^^ y.1) (GF.gp l w y).1) t
      rw [← mN_assoc, mN_comm (GF.gp l w y).1]
theorem toFin : ∀ l : List Nat, (∀ p ∈ l, p < 256) → ∃ L : List (Fin 256), l = L.map (·.1)
  | [], _ => ⟨[], rfl⟩
  | p :: l, h => by
    obtain ⟨L, hL⟩ := toFin l fun q hq => h q (List.mem_cons_of_mem _ hq)
    exact ⟨⟨p, h p List.mem_cons_self⟩ :: L, by rw [List.map_cons, ← hL]⟩
theorem ofBE_beA {n v : Nat} (h : v < 256 ^ n) : ofBE (beA n v) = v := by
  refine lane_ext n _ _ ?_ h fun k hk => ?_
  · have := ofBE_lt (beA n v)
    rw [beA_size] at this; exact this
  · rw [lane_ofBE (by rw [beA_size]; exact hk), beA_size, at8_beA h (by omega)]
    congr 1
    omega
theorem set_map {pls : List Nat} {which : Nat} (hw : which < pls.length) (hn : pls.Nodup) (f : Nat → Array UInt8) (b : Array UInt8) :
    (pls.map fun p => (p, f p)).set which (pls[which], b) = pls.map fun p => (p, if p = pls[which] then b else f p) := by
  apply List.ext_getElem (by simp)
  intro i h1 h2
  rw [List.getElem_set, List.getElem_map]
  have hi : i < pls.length := by simpa using h2
  by_cases e : which = i
  · subst e
    rw [if_pos rfl, List.getElem_map, if_pos rfl]
  · rw [if_neg e, List.getElem_map]
    have : pls[i] ≠ pls[which] := fun h => e ((List.getElem_inj hn).mp h).symm
    rw [if_neg this]

theorem mth {size turn which : Nat} {rws pls : List Nat} {free : Nat} (hturn : turn < 256 ^ size) (hw : which < pls.length) (hrl : rws.length ≤ pls.length) (hr : ∀ r ∈ rws, r < 2 ^ (8 * size)) (hn : pls.Nodup) (hp : ∀ p ∈ pls, p < 256) (hf : free < 256) (hfr : free ∉ pls) :
    Mth size (onesN size) turn which rws pls free := by
  rw [onesN_R]
  have hc := hc_all size
  have hlt : ∀ x, lawAt x (onesR size) rws < 256 ^ size := fun x => by rw [← p2_256]; exact lawAt_lt hc hr
  obtain ⟨L, rfl⟩ := toFin pls hp
  have hnL : L.Nodup := (List.pairwise_map.mp hn).imp fun h e => h (by rw [e])
  rw [List.length_map] at hw hrl
  have ev_at : ∀ (j : Nat), j < size → ∀ y : Fin 256, at8 (beA size (lawAt y.1 (onesR size) rws)) j = (GF.ev (rws.map fun r => (⟨lane r (size - 1 - j), lane_lt _ _⟩ : Fin 256)) y).1 := fun j hj y => by
    rw [at8_beA (hlt _) hj, lane_lawAt (by omega), lawAt_ev]
  have hget : (L.map (·.1))[which]! = L[which].1 := by
    rw [getElem!_pos _ _ (by simpa using hw), List.getElem_map]
  have hX : (⟨free, hf⟩ : Fin 256) ∉ L := fun h => hfr (List.mem_map.mpr ⟨_, h, rfl⟩)
  have hWL : L[which] ∈ L := List.getElem_mem hw
  refine ⟨fun x hx => ?_, fun b hb => ?_, ?_⟩
  · by_cases hin : (⟨x, hx⟩ : Fin 256) ∈ L
    · unfold interpA ptsOf
      cases hfd : ((L.map (·.1)).map fun p => (p, beA size (lawAt p (onesR size) rws))).find? (fun p => p.1 == x) with
      | none =>
        rw [List.find?_eq_none] at hfd
        have := hfd (x, beA size (lawAt x (onesR size) rws)) (List.mem_map.mpr ⟨x, List.mem_map.mpr ⟨_, hin, rfl⟩, rfl⟩)
        simp at this
      | some p =>
        have h1 := List.find?_some hfd
        obtain ⟨q, _, rfl⟩ := List.mem_map.mp (List.mem_of_find?_eq_some hfd)
        have : q = x := by simpa using h1
        rw [this]
    · have hsz : (interpA (ptsOf size (onesR size) rws (L.map (·.1))) x size).size = size := by
        have hf : ((ptsOf size (onesR size) rws (L.map (·.1))).find? fun p => p.1 == x) = none := by
          rw [List.find?_eq_none]
          intro p hp
          obtain ⟨q, hq, rfl⟩ := List.mem_map.mp hp
          obtain ⟨y, hy, rfl⟩ := List.mem_map.mp hq
          intro e
          have : y.1 = x := by simpa using e
          exact hin ((Fin.ext this : y = ⟨x, hx⟩) ▸ hy)
        unfold interpA
        rw [hf]
        exact fold_size _ _ (fun p hp => by
          obtain ⟨q, _, rfl⟩ := List.mem_map.mp hp
          exact beA_size _ _) (by simp)
      refine at8_ext (by rw [hsz, beA_size]) fun j hj => ?_
      rw [hsz] at hj
      have h := at8_interp (fun p => beA size (lawAt p (onesR size) rws)) (x := ⟨x, hx⟩) hin (fun p _ => beA_size _ _) hj
      rw [show ptsOf size (onesR size) rws (L.map (·.1)) = (L.map (·.1)).map fun p => (p, beA size (lawAt p (onesR size) rws)) from rfl, h]
      rw [show (fun y : Fin 256 => (⟨at8 (beA size (lawAt y.1 (onesR size) rws)) j, at8_lt _ _⟩ : Fin 256)) = GF.ev (rws.map fun r => (⟨lane r (size - 1 - j), lane_lt _ _⟩ : Fin 256)) from funext fun y => Fin.ext (ev_at j hj y)]
      rw [Fld.lagrange GF hin hnL (by rw [List.length_map]; exact hrl)]
      exact (ev_at j hj ⟨x, hx⟩).symm
  · have hall : ∀ p ∈ (ptsOf size (onesR size) rws (L.map (·.1))).set which ((L.map (·.1))[which]!, b), p.2.size = size := fun p hp => by
      rcases List.mem_or_eq_of_mem_set hp with h | h
      · obtain ⟨q, _, rfl⟩ := List.mem_map.mp h
        exact beA_size _ _
      · rw [h]; exact hb
    unfold interpA
    split
    · rename_i p hfd
      exact hall _ (List.mem_of_find?_eq_some hfd)
    · exact fold_size _ _ hall (by simp)
  · have hmw : (L.map (·.1))[which]'(by simpa using hw) = L[which].1 := List.getElem_map _
    have hmw' : which < (L.map (·.1)).length := by simpa using hw
    rw [hget, ofBE_beA (hlt _)]
    have hb' : lawAt L[which].1 (onesR size) rws ^^^ turn < 256 ^ size := by
      have := Nat.xor_lt_two_pow (n := 8 * size) (by rw [p2_256]; exact hlt L[which].1) (by rw [p2_256]; exact hturn)
      rw [p2_256] at this; exact this
    have hset := set_map hmw' hn (fun p => beA size (lawAt p (onesR size) rws)) (beA size (lawAt L[which].1 (onesR size) rws ^^^ turn))
    rw [hmw] at hset
    rw [show ptsOf size (onesR size) rws (L.map (·.1)) = (L.map (·.1)).map fun p => (p, beA size (lawAt p (onesR size) rws)) from rfl, hset]
    generalize hDd : (fun p : Nat => if p = L[which].1 then beA size (lawAt L[which].1 (onesR size) rws ^^^ turn) else beA size (lawAt p (onesR size) rws)) = D
    have hDp : ∀ p, D p = if p = L[which].1 then beA size (lawAt L[which].1 (onesR size) rws ^^^ turn) else beA size (lawAt p (onesR size) rws) := fun p => by rw [← hDd]
    have hDs : ∀ p, (D p).size = size := fun p => by rw [hDp]; split <;> exact beA_size _ _
    rw [show ((L.map (·.1)).map fun p => (p, if p = L[which].1 then beA size (lawAt L[which].1 (onesR size) rws ^^^ turn) else beA size (lawAt p (onesR size) rws))) = (L.map (·.1)).map fun p => (p, D p) from by rw [← hDd]]
    have hts : (interpA ((L.map (·.1)).map fun p => (p, D p)) free size).size = size := by
      unfold interpA
      split
      · rename_i p hfd
        obtain ⟨q, _, rfl⟩ := List.mem_map.mp (List.mem_of_find?_eq_some hfd)
        exact hDs q
      · exact fold_size _ _ (fun p hp => by
          obtain ⟨q, _, rfl⟩ := List.mem_map.mp hp
          exact hDs q) (by simp)
    have hto := ofBE_lt (interpA ((L.map (·.1)).map fun p => (p, D p)) free size)
    rw [hts] at hto
    have hxo : ofBE (interpA ((L.map (·.1)).map fun p => (p, D p)) free size) ^^^ lawAt free (onesR size) rws < 2 ^ (8 * size) := Nat.xor_lt_two_pow (by rw [p2_256]; exact hto) (by rw [p2_256]; exact hlt _)
    refine lane_ext size _ _ (by rw [← p2_256]; exact times_lt hc hxo) (by rw [← p2_256]; exact times_lt hc (by rw [p2_256]; exact hturn)) fun k hk => ?_
    rw [lane_times _ _ _ _ hk, lane_times _ _ _ _ hk, lane_xor, lane_ofBE (by rw [hts]; exact hk), hts, lane_lawAt hk, lawAt_ev rws k ⟨free, hf⟩]
    have hj : size - 1 - k < size := by omega
    have h := at8_interp D (x := ⟨free, hf⟩) hX (fun p _ => hDs _) hj
    rw [h]
    have hkk : size - 1 - (size - 1 - k) = k := by omega
    generalize hcs : (rws.map fun r => (⟨lane r k, lane_lt r k⟩ : Fin 256)) = cs
    have hg : (fun y : Fin 256 => (⟨at8 (D y.1) (size - 1 - k), at8_lt _ _⟩ : Fin 256)) = fun y => GF.a (GF.ev cs y) (if y = L[which] then ⟨lane turn k, lane_lt _ _⟩ else GF.z) := funext fun y => Fin.ext (by
      show at8 (D y.1) (size - 1 - k) = (GF.ev cs y).1 ^^^ (if y = L[which] then (⟨lane turn k, lane_lt _ _⟩ : Fin 256) else GF.z).1
      rw [hDp]
      by_cases e : y = L[which]
      · rw [if_pos (by rw [e]), if_pos e, at8_beA hb' hj, hkk, lane_xor, lane_lawAt hk, lawAt_ev, hcs, e]
      · rw [if_neg (fun e' => e (Fin.ext e')), if_neg e, ev_at _ hj y, hkk, hcs]
        exact (Nat.xor_zero _).symm)
    rw [hg, Fld.La_add, Fld.lagrange GF hX hnL (by rw [← hcs, List.length_map]; exact hrl), Fld.La_one GF hWL hnL]
    rw [gap_fold _ _ _ _ (by decide), gap_fold L[which] ⟨free, hf⟩ _ _ (by decide), mN_one (GF.gp L L[which] L[which]).2, mN_one (GF.gp L L[which] ⟨free, hf⟩).2]
    generalize hE : GF.ev cs ⟨free, hf⟩ = ex
    generalize hT : (⟨lane turn k, lane_lt _ _⟩ : Fin 256) = c
    have hTv : lane turn k = c.1 := by rw [← hT]
    rw [hTv]
    have hl := GF.turn_law (c := c) hWL hX hnL
    have e1 : (GF.a ex (GF.m c (GF.B L ⟨free, hf⟩ L[which]))).1 ^^^ ex.1 = (GF.m c (GF.B L ⟨free, hf⟩ L[which])).1 := by
      have := GF.acan ex (GF.m c (GF.B L ⟨free, hf⟩ L[which]))
      have h2 := congrArg Fin.val this
      have h3 : (GF.a ex (GF.a ex (GF.m c (GF.B L ⟨free, hf⟩ L[which])))).1 = ex.1 ^^^ (GF.a ex (GF.m c (GF.B L ⟨free, hf⟩ L[which]))).1 := rfl
      rw [Nat.xor_comm, ← h3, h2]
    rw [e1, times_m (GF.gp L L[which] L[which]).2 (GF.m c (GF.B L ⟨free, hf⟩ L[which])).2, times_m (GF.gp L L[which] ⟨free, hf⟩).2 c.2]
    exact congrArg Fin.val hl
end Mine
set_option maxRecDepth 100000
set_option maxHeartbeats 4000000
set_option Elab.async false
set_option linter.unusedVariables false
namespace Mine
open PySem PySem.W PySem.Spec PyProof.Rows PySem.Calls PySem.W.KBw

theorem c_law {W : Wc} {sc : Addr} {osc : Obj} {sv : List Value} {ns : List Int} (hq : W.gq = bareQ) (hdq : W.dq = fun _ => True) (hls : LsO osc sv) (hint : IntsAre sv ns) (hnl : ns.length ≤ 63) (hbits : ∀ x ∈ ns, Builtin.Int.intBits x ≤ 2 ^ 20) :
    ClE W callerA (.ref 202) [.ref sc] [(sc, osc)] (fun v => v = .bool true) (fun _ _ _ => False) := by
  refine ClE_of (binds := [(Str.ofString "script", .ref sc)]) (body := lawB W.w) (fun _ => Fls) (by decide) (fun s w ho hcell => ?_) (fun s e s' h => h.elim) (hbody := by with_unfolding_all rfl)
  have h := lawA (W := W) (sc := sc) (he := s.heap) (L := s.heap.objs.size) (A := callerA.deeper (envF W.w 202 s.heap.objs.size)) ⟨hq, hdq, rfl, by show (callerA.depth + 1) + 20 < recursionLimit; decide, by show (callerA.units + 3) + 20 < cLine; decide, Around.frames_deeper rfl, w.lt⟩ hcell hls hint hnl hbits
    (fun size _ r hr => by rw [onesN_R]; exact hc_all size r hr)
    (fun size turn which rws pls free h1 h2 h3 h4 h5 h6 h7 h8 h9 h10 h11 => mth h2 h3 h5 h7 h8 h9 h10 h11)
  exact fun s1 S => wpAny_mono (h s1 S) (fun fl s2 ⟨ρ, o, S2, e⟩ => ⟨ρ, o, S2, by rw [e]; rfl⟩) fun _ _ x => x

theorem ns_agree {h : Heap} {a : Addr} {m m' : Str → Option Value} (x : h.Ns a m) (y : h.Ns a m') (n : Str) : m n = m' n := by
  obtain ⟨o, es, ep, e, d, _, r⟩ := x
  obtain ⟨o', es', ep', e', d', _, r'⟩ := y
  rw [e] at e'
  cases e'
  rw [d] at d'
  cases d'
  rw [← r, ← r']
theorem oldK_of {h h' : Heap} {ps : Array Value} (k : Kp h h') (ht : h.TableAt 154 150 ps) : OldK h h' := by
  obtain ⟨more, em⟩ := k.tab ps ht.2
  refine ⟨fun b o e => ?_, fun b o e => ?_⟩
  · by_cases hb : b = 150
    · subst hb
      have e0 := ht.2
      rw [e] at e0
      cases e0
      exact .inr (.inl ⟨ht.isCodeTable, rfl, ps, more, rfl, em⟩)
    · exact .inl (k.keep b o hb e)
  · by_cases hb : b = 150
    · subst hb; exact ⟨_, em⟩
    · exact ⟨o, k.keep b o hb e⟩
noncomputable def cd154 (w : World) : Bool := match (KK w).lookup 154 with
  | some ⟨_, _, .fields vs, _⟩ => (match (vs[11]? : Option Value) with | some (Value.ref P) => P == 150 | _ => false)
  | _ => false
theorem tab_of {w : World} {p : Program} {loose : List Str} {mean : ExcName → Option Value} {mg mb : Str → Option Value} {h : Heap} (KX : (KK w).In h) (T : Top p loose mean mg mb h) {d : DefRec}
    (hf : (recsOf p).find? (fun e => e.name == Str.ofString "_interpolate") = some d) : h.IsCode 154 150 #[] ∧ h.TableAt 154 150 #[] := by
  have hm : mg (Str.ofString "_interpolate") = some (.ref 155) := (ns_agree T.g (ns3 KX) _).trans (by kernel_rfl!)
  obtain ⟨c, d', sl, hl, _⟩ := fnGood_ (w := w) (f := 155) (by kernel_rfl!)
  obtain ⟨c', P, hc, B⟩ := based_of_top T hf hm (KX _ _ hl) rfl
  have hcd : (fdOf w 155).code = .ref 154 := by with_unfolding_all rfl
  rw [hcd] at hc
  cases hc
  have hP : P = 150 := by
    obtain ⟨⟨o, vs, e1, _, e2, e3⟩, _⟩ := B.tab
    have q : cd154 w = true := by kernel_rfl!
    unfold cd154 at q
    split at q
    · rename_i _ _ vs' _ e
      have e' := KX _ _ e
      rw [e1] at e'
      cases e'
      cases e2
      rw [e3] at q
      simpa using q
    · cases q
  subst hP
  exact ⟨B.code, B.tab⟩
theorem bs_of {w : World} {p : Program} {loose : List Str} {mean : ExcName → Option Value} {mg mb : Str → Option Value} {s : Shared} (KX : (KK w).In s.heap) (T : Top p loose mean mg mb s.heap) (ht : s.heap.IsCode 154 150 #[] ∧ s.heap.TableAt 154 150 #[]) :
    Bs ⟨w, s.heap, mb, s.os, fun _ => True, bareQ⟩ := by
  obtain ⟨c, d', sl, hl, _⟩ := fnGood_ (w := w) (f := 202) (by kernel_rfl!)
  refine ⟨KX, T.b, T.builtins, T.nolimit, ht.1, ht.2, Heap.lt_size (KX _ _ hl), ?_⟩
  obtain ⟨bm, ob, h1, _, h3, h4, h5, h6⟩ := T.bmain
  have h2 : mg (Str.ofString "__builtins__") = some (.ref 4) := (ns_agree T.g (ns3 KX) _).trans (by kernel_rfl!)
  have : bm = 4 := by
    have h1' : mg (Str.ofString "__builtins__") = some (.ref bm) := h1
    rw [h2] at h1'
    cases h1'; rfl
  subst this
  exact ⟨ob, h3, h4, h5, h6⟩
theorem far_list {h : Heap} {sc : Addr} {o : Obj} {vs : List Value} (ht : h.TableAt 154 150 #[]) (e : h.get? sc = some o) (hl : LsO o vs) : Far sc := by
  obtain ⟨hc, _⟩ := hl
  constructor
  · intro h1
    subst h1
    rw [ht.2] at e
    cases e
    cases hc
  · intro h1
    subst h1
    obtain ⟨⟨o', _, e1, e2, _⟩, _⟩ := ht
    rw [e] at e1
    cases e1
    rw [e2] at hc
    injection hc with h
    exact absurd h (by decide)
theorem law_all {w : World} {s : Shared} {mb : Str → Option Value} {sc : Addr} {sv : List Value} {ns : List Int} (hb : Bs ⟨w, s.heap, mb, s.os, fun _ => True, bareQ⟩) (hg : s.gens = #[])
    (hL : s.heap.IsList sc sv.toArray) (hint : IntsAre sv ns) (hlen : ¬ ((63 : Nat) : Int) < (ns.length : Int)) (hlay : (PyData.list (ns.map .int)).layable0 = true) :
    wpAny (model PR w) callerA (call (.ref 202) [.ref sc]) (fun v s' => v = .bool true ∧ OldK s.heap s'.heap ∧ s'.os = s.os ∧ AllBare s'.gens) (fun _ _ => False) s := by
  obtain ⟨osc, e, hc, hn⟩ := hL
  have hls : LsO osc sv := ⟨hc, hn⟩
  have wd : Wd ⟨w, s.heap, mb, s.os, fun _ => True, bareQ⟩ s := ⟨hb, Nat.le_refl _, .refl _, ⟨_, hb.code⟩, .of_eq hg, rfl, trivial⟩
  have := c_law (W := ⟨w, s.heap, mb, s.os, fun _ => True, bareQ⟩) rfl rfl hls hint (by omega) (fun x hx => PyData.bits_item_of_ints hlay hx) s wd ⟨fun p hp => by
    rw [List.mem_singleton.mp hp]
    exact ⟨e, far_list hb.tab e hls⟩, by simp⟩
  exact wpAny_mono this (fun v s' ⟨w', k, z, q⟩ => ⟨q, oldK_of k hb.tab, w'.os.1, w'.bare⟩) fun _ _ x => x
end Mine
set_option maxRecDepth 100000
set_option maxHeartbeats 8000000
set_option Elab.async false
set_option linter.unusedVariables false
open PySem PySem.W PySem.Spec PyProof.Rows PySem.Calls PySem.W.KBw PySem.W.X Mine
theorem PySem.Challenge.cw_lb0021_01_holds : PySem.Challenge.rw_lb0021_01.Holds := by
  w_on
  o_law
  refine holds_open (q := vw) (loose := [Str.ofString "_tuplegetter", Str.ofString "RawShare"]) (Xt := fun s => xlAt vw [] s && recOk (RowW.records PySem.Challenge.rw_lb0021_01.row.toRowW) s) (XP := XL vw []) (Yf := Hook.obs (kHook K0 asK asK_ok)) (Ya := Hook.val (kHook K0 asK asK_ok)) (YP := Hook.says (kHook K0 asK asK_ok)) (N := 3632) left0 (Hook.of (kHook K0 asK asK_ok)) (Hook.keeps (kHook K0 asK asK_ok)) (fun s e => xl_of s (Bool.and_eq_true_iff.mp e).1) XL.keeps (by rfl) (by rfl) (by rfl) (fun s e => recFacts_of (Bool.and_eq_true_iff.mp e).2) (by rfl) (by first | assumption | decide +kernel) (by decide +kernel) ⟨rfl, rfl, rfl, rfl, rfl, by decide +kernel⟩ ?hw ?hc
  case hw => w_witness2
  case hc =>
    intro w s₀ s₁ mg mb G Y fa o pm cd doc dV kV ho hd hcd hD hmg hg args vals as hpre hlay hrd hwl hlo
    have KX : (K0 w.params).In s₁.heap := kIn_of Y
    refine Ground.open G ?_
    intro T B D TE TW
    wrow_args hpre hlay hrd hwl hlo
    all_goals (
      x_fa T KX hmg
      rename Heap.IsList _ _ _ => hLs
      rename IntsAre _ _ => hIs
      rename PyData.layable0 _ = true => hLy
      rename ¬ (_ : Int) < _ => hLn
      have ht := tab_of KX T rfl
      exact wpAny_mono (law_all (bs_of KX T ht) hg hLs hIs hLn hLy) (fun v s' ⟨e, k, o, b⟩ => by
        subst e
        exact ⟨.inl ⟨_, .bool true, [], rfl, fun _ => rfl, ReadsW.bool true, by first | rfl | wrow_post, fun _ => ⟨List.nodup_nil, fun _ hm => (nomatch hm)⟩⟩, k, o, b⟩) (fun _ _ x => x.elim))
