import PyProof.Rows.All
import Wide.All
import OpenK.AllK
import Wide.FinOn
import KE.KxPercentT
import PySem.Challenge.RW_pm0025_01
set_option Elab.async false
set_option maxRecDepth 100000
set_option linter.unusedVariables false
/- part L1 -/
namespace Mine
open PySem PySem.W PySem.Calls PyProof.Rows
theorem clash {A B x : Data} {p : Prop} (d : x = A) (q : x = B) (h : (A.ctorIdx == B.ctorIdx) = false := by rfl) : p := by
  subst d; subst q; simp at h
theorem none1 {α : Type} {x : Option α} {a : α} {p : Prop} (d : x = none) (q : x = some a) : p := by rw [d] at q; cases q
theorem one1 {α : Type} {x : Option α} {a b : α} (d : x = some a) (q : x = some b) : a = b := Option.some.inj (d.symm.trans q)
theorem none2 {h : Heap} {a b : Addr} {o : Obj} {p : Prop} (q : a = b) (d : h.get? b = none) (e : h.get? a = some o) : p := by rw [q, d] at e; cases e
theorem one2 {h : Heap} {a b : Addr} {o o' : Obj} (q : a = b) (d : h.get? b = some o) (e : h.get? a = some o') : o = o' := by subst q; exact one1 d e

theorem and_disj (k a b : Nat) (h : b < 2 ^ k) : (2 ^ k * a) &&& b = 0 := by
  apply Nat.eq_of_testBit_eq
  intro i
  rw [Nat.testBit_and, Nat.testBit_two_pow_mul, Nat.zero_testBit]
  by_cases hi : k ≤ i
  · have : b.testBit i = false := Nat.testBit_lt_two_pow (Nat.lt_of_lt_of_le h (Nat.pow_le_pow_right (by decide) hi))
    simp [this]
  · simp [hi]
theorem bitAnd_nat (m n : Nat) : Builtin.bitAnd (m : Int) (n : Int) = ((m &&& n : Nat) : Int) := by
  have h1 : decide ((0 : Int) ≤ (m : Int)) = true := decide_eq_true (Int.natCast_nonneg _)
  have h2 : decide ((0 : Int) ≤ (n : Int)) = true := decide_eq_true (Int.natCast_nonneg _)
  have h3 : ∀ x y : Int, Spec.bitAnd x y = Builtin.bitAnd x y := fun _ _ => rfl
  rw [← h3]
  unfold Spec.bitAnd
  rw [h1, h2]
  simp only [Int.toNat_natCast]
theorem or_disj (k a b : Nat) (h : b < 2 ^ k) : Builtin.bitOr ((a : Int) * 2 ^ k) (b : Int) = ((a * 2 ^ k + b : Nat) : Int) := by
  rw [bitOr_and]
  have e : Builtin.bitAnd ((a : Int) * 2 ^ k) (b : Int) = 0 := by
    have h1 : ((a : Int) * 2 ^ k) = ((2 ^ k * a : Nat) : Int) := by push_cast; rw [Int.mul_comm]
    rw [h1, bitAnd_nat, and_disj k a b h]; rfl
  rw [e]
  push_cast
  omega

def tbl : Array UInt8 := #[65, 66, 67, 68, 69, 70, 71, 72, 73, 74, 75, 76, 77, 78, 79, 80, 81, 82, 83, 84, 85, 86, 87, 88, 89, 90, 97, 98, 99, 100, 101, 102, 103, 104, 105, 106, 107, 108, 109, 110, 111, 112, 113, 114, 115, 116, 117, 118, 119, 120, 121, 122, 48, 49, 50, 51, 52, 53, 54, 55, 56, 57, 43, 47]
def tblN (n : Nat) : Nat := (tbl.getD n 0).toNat

/-- the writer -/
abbrev BS := Nat × Nat × List Nat
def em (lb lc : Nat) : List Nat := (List.range (lb / 6)).map fun j => lc / 2 ^ (lb - 6 * j - 6) % 64
def bstep (s : BS) (b : Nat) : BS := let lc := (s.2.1 * 256 + b) % 65536; ((s.1 + 8) % 6, lc, s.2.2 ++ em (s.1 + 8) lc)
def bfin (s : BS) : List Nat := s.2.2.map tblN ++ (if s.1 = 2 then [tblN (s.2.1 % 4 * 16), 61, 61] else if s.1 = 4 then [tblN (s.2.1 % 16 * 4), 61] else [])
def b2a (l : List Nat) : List Nat := bfin (l.foldl bstep (0, 0, []))

/-- the signs by three octets -/
def enc : List Nat → List Nat
  | a :: b :: c :: r => tblN (a / 4) :: tblN (a % 4 * 16 + b / 16) :: tblN (b % 16 * 4 + c / 64) :: tblN (c % 64) :: enc r
  | [a, b] => [tblN (a / 4), tblN (a % 4 * 16 + b / 16), tblN (b % 16 * 4), 61]
  | [a] => [tblN (a / 4), tblN (a % 4 * 16), 61, 61]
  | [] => []

theorem em8 (lc : Nat) : em 8 lc = [lc / 4 % 64] := by simp [em, List.range_succ]
theorem em10 (lc : Nat) : em 10 lc = [lc / 16 % 64] := by simp [em, List.range_succ]
theorem em12 (lc : Nat) : em 12 lc = [lc / 64 % 64, lc % 64] := by simp [em, List.range_succ]
theorem q3 {c : Nat} (x k : Nat) (hc : c < 256) : (x * 256 + c) / (256 * k) = x / k := by
  rw [← Nat.div_div_eq_div_mul, Nat.add_comm, Nat.add_mul_div_right _ _ (by decide), Nat.div_eq_of_lt hc, Nat.zero_add]
theorem q8 : ∀ a, a < 256 → a / 4 % 64 = a / 4 := by decide +kernel
theorem q9 : ∀ a, a < 256 → ∀ y, y < 16 → (a * 16 + y) % 64 = a % 4 * 16 + y := by decide +kernel
theorem q10 : ∀ a, a < 256 → ∀ y, y < 4 → (a * 4 + y) % 64 = a % 16 * 4 + y := by decide +kernel
theorem q11 (a b m k : Nat) (hk : 0 < k) : (a * (k * m) + b) / k = a * m + b / k := by
  rw [Nat.mul_left_comm, Nat.add_comm, Nat.add_mul_div_left _ _ hk, Nat.add_comm]
theorem q2 (a : Nat) (ha : a < 256) (b : Nat) (hb : b < 256) : (a * 256 + b) / 1024 % 64 = a / 4 ∧ (a * 256 + b) / 16 % 64 = a % 4 * 16 + b / 16 ∧ (a * 256 + b) / 64 % 64 = a % 16 * 4 + b / 64 :=
  ⟨(congrArg (· % 64) (q3 a 4 hb)).trans (q8 a ha), (congrArg (· % 64) (q11 a b 16 16 (by decide))).trans (q9 a ha _ (Nat.div_lt_of_lt_mul hb)), (congrArg (· % 64) (q11 a b 4 64 (by decide))).trans (q10 a ha _ (Nat.div_lt_of_lt_mul hb))⟩
theorem k1 (x a : Nat) (ha : a < 256) : (x * 256 + a) % 65536 = x % 256 * 256 + a := by omega
theorem k2 (x a : Nat) (ha : a < 256) : (x * 256 + a) % 65536 % 256 = a := by
  rw [k1 x a ha, Nat.mul_comm, Nat.mul_add_mod, Nat.mod_eq_of_lt ha]
theorem f1 (x a : Nat) (ha : a < 256) : (x * 256 + a) % 65536 / 4 % 64 = a / 4 := by
  rw [k1 x a ha]
  exact (congrArg (· % 64) (q11 (x % 256) a 64 4 (by decide))).trans ((by rw [Nat.mul_comm, Nat.mul_add_mod] : (x % 256 * 64 + a / 4) % 64 = a / 4 % 64).trans (q8 a ha))
theorem f2 (x a b : Nat) (ha : a < 256) (hb : b < 256) : ((x * 256 + a) % 65536 * 256 + b) % 65536 / 16 % 64 = a % 4 * 16 + b / 16 := by
  rw [k1 _ b hb, k2 x a ha]; exact (q2 a ha b hb).2.1
theorem f3 (x b c : Nat) (hb : b < 256) (hc : c < 256) : ((x * 256 + b) % 65536 * 256 + c) % 65536 / 64 % 64 = b % 16 * 4 + c / 64 := by
  rw [k1 _ c hc, k2 x b hb]; exact (q2 b hb c hc).2.2
theorem f4 (x c k : Nat) (hc : c < 256) : (x * 256 + c) % 65536 % 64 = c % 64 := by
  rw [k1 x c hc, show x % 256 * 256 = 64 * (x % 256 * 4) by rw [Nat.mul_left_comm], Nat.mul_add_mod]
theorem f5 (x a : Nat) (ha : a < 256) : (x * 256 + a) % 65536 % 4 = a % 4 := by
  rw [k1 x a ha, show x % 256 * 256 = 4 * (x % 256 * 64) by rw [Nat.mul_left_comm], Nat.mul_add_mod]
theorem f6 (x a : Nat) (ha : a < 256) : (x * 256 + a) % 65536 % 16 = a % 16 := by
  rw [k1 x a ha, show x % 256 * 256 = 16 * (x % 256 * 16) by rw [Nat.mul_left_comm], Nat.mul_add_mod]
theorem bfold : ∀ (l : List Nat), (∀ x ∈ l, x < 256) → ∀ lc out, bfin (l.foldl bstep (0, lc, out)) = out.map tblN ++ enc l
  | [], _, lc, out => by simp [bfin, enc]
  | [a], h, lc, out => by
    have ha := h a (.head _)
    simp only [List.foldl_cons, List.foldl_nil, bstep, Nat.zero_add, em8, bfin, enc]
    simp only [show 8 % 6 = 2 from rfl, if_true, List.map_append, List.map_cons, List.map_nil, List.append_assoc, List.cons_append, List.nil_append, f1 lc a ha, f5 lc a ha]
  | [a, b], h, lc, out => by
    have ha := h a (.head _)
    have hb := h b (.tail _ (.head _))
    simp only [List.foldl_cons, List.foldl_nil, bstep, Nat.zero_add, em8, bfin, enc, show 8 % 6 = 2 from rfl, show 2 + 8 = 10 from rfl, em10]
    simp only [show 10 % 6 = 4 from rfl, show ¬ (4 = 2) by decide, if_false, if_true, List.map_append, List.map_cons, List.map_nil, List.append_assoc, List.cons_append, List.nil_append, f1 lc a ha, f2 lc a b ha hb, f6 _ b hb]
  | a :: b :: c :: r, h, lc, out => by
    have ha := h a (.head _)
    have hb := h b (.tail _ (.head _))
    have hc := h c (.tail _ (.tail _ (.head _)))
    simp only [List.foldl_cons, bstep, Nat.zero_add, em8, show 8 % 6 = 2 from rfl, show 2 + 8 = 10 from rfl, em10, show 10 % 6 = 4 from rfl, show 4 + 8 = 12 from rfl, em12, show 12 % 6 = 0 from rfl]
    rw [bfold r (fun x hx => h x (.tail _ (.tail _ (.tail _ hx))))]
    simp only [enc, List.map_append, List.map_cons, List.map_nil, List.append_assoc, List.cons_append, List.nil_append, f1 lc a ha, f2 lc a b ha hb, f3 _ b c hb hc, f4 _ c 0 hc]
theorem b2a_enc (l : List Nat) (h : ∀ x ∈ l, x < 256) : b2a l = enc l := by
  unfold b2a; rw [bfold l h]; rfl
end Mine
/- part HK -/
namespace Mine
open PySem PySem.W PySem.Calls PyProof.Rows
/-- the k-th statement of the text, a def -/
noncomputable def fnAt (k : Nat) : Option (Arguments × List Stmt × Scope) := match (PySem.Challenge.pw_pm0025_01.main.body.drop k : List Stmt) with | .FunctionDef _ p b _ _ _ sc _ _ _ :: _ => some (p, b, sc) | _ => none
noncomputable def fnP (k : Nat) : Arguments := ((fnAt k).map (·.1)).getD ⟨[], [], none, [], [], none, []⟩
noncomputable def fnB (k : Nat) : List Stmt := ((fnAt k).map (·.2.1)).getD []
noncomputable def fnS (k : Nat) : Scope := ((fnAt k).map (·.2.2)).getD { kind := .function, names := [], isGenerator := false, isCoroutine := false }
noncomputable def oFn (n : Str) (k : Nat) (d kw md cd : Value) : Obj := { cls := .type "function", data := .func (FuncData.mk n n (fnP k) (.stmts (fnB k)) (fnS k) 3 [] d kw .none md none cd .none 0) }
def oFs (c : Value) (vs : List Value) : Obj := { cls := c, data := .fields vs.toArray }
def oSq (c : Value) (vs : List Value) : Obj := { cls := c, data := .seq vs.toArray }
def oPl (c : Value) : Obj := { cls := c, data := .plain }
def oDi (c : Value) (P : Params) (l : List (Str × Tok × Value)) (n : Nat) : Obj := { cls := c, data := .dict (l.map fun e => DictEntry.mk (PyData.keyHash P e.1) (.str e.1 e.2.1) e.2.2).toArray n }
def dE (n : Str) (t : Tok) (v : Value) : Str × Tok × Value := (n, t, v)
/-- the objects of the top that the proof speaks of -/
noncomputable def frag (P : Params) : Frag :=
  (nat_lit 3, oDi (.type "dict") P [(dE "__name__" 165 (.str "law_pm0025_01" 350)), (dE "__doc__" 166 (.none)), (dE "__package__" 167 (.none)), (dE "__loader__" 168 (.builtin "__main__.__loader__#opaque")), (dE "__spec__" 169 (.none)), (dE "__annotations__" 170 (.ref 6)), (dE "__builtins__" 171 (.ref 4)), (dE "__file__" 173 (.str "/claim/cut.py" 172)), (dE "__cached__" 174 (.none)), (dE "_wall" 193 (.ref 21)), (dE "read_uint1" 203 (.ref 28)), (dE "read_string1" 212 (.ref 35)), (dE "read_bytes1" 221 (.ref 42)), (dE "bytes_types" 224 (.ref 43)), (dE "_bytes_from_decode_data" 231 (.ref 50)), (dE "Error" 251 (.ref 60)), (dE "_ascii_buffer" 259 (.ref 70)), (dE "_buffer" 267 (.ref 77)), (dE "_truth" 275 (.ref 84)), (dE "_B64" 277 (.bytes tbl 276)), (dE "_b64_value" 284 (.ref 91)), (dE "a2b_base64" 300 (.ref 99)), (dE "b2a_base64" 314 (.ref 107)), (dE "b64encode" 325 (.ref 115)), (dE "b64decode" 334 (.ref 123)), (dE "_initial_missing" 337 (.ref 124)), (dE "reduce" 349 (.ref 132)), (dE "_law_orders" 357 (.ref 137)), (dE "_law_cells" 363 (.ref 142)), (dE "_law_signs" 369 (.ref 147)), (dE "_law_stream" 379 (.ref 154)), (dE "_law_read" 391 (.ref 161)), (dE "_law_laid" 397 (.ref 166)), (dE "law" 403 (.ref 171))] 34) ::
  (nat_lit 27, oFs (.type "code") [.str "read_uint1" 196, .str "read_uint1" 197, .str "/claim/cut.py" 198, .int 5 0, .int 1 0, .int 0 0, .int 0 0, .int 3 0, .ref 22, .bool true, .int 181 0, .ref 23, .none, .ref 24, .ref 25, .ref 26, .int 201 0, .int 5 0, .str "/claim/cut.py" 202]) ::
  (nat_lit 28, oFn "read_uint1" 2 (.none) (.none) (.str "cpy313.pickletools" 194) (.ref 27)) ::
  (nat_lit 34, oFs (.type "code") [.str "read_string1" 204, .str "read_string1" 205, .str "/claim/cut.py" 206, .int 10 0, .int 1 0, .int 0 0, .int 0 0, .int 3 0, .ref 29, .bool true, .int 181 0, .ref 30, .none, .ref 31, .ref 32, .ref 33, .int 210 0, .int 10 0, .str "/claim/cut.py" 211]) ::
  (nat_lit 35, oFn "read_string1" 3 (.none) (.none) (.str "cpy313.pickletools" 194) (.ref 34)) ::
  (nat_lit 41, oFs (.type "code") [.str "read_bytes1" 213, .str "read_bytes1" 214, .str "/claim/cut.py" 215, .int 17 0, .int 1 0, .int 0 0, .int 0 0, .int 3 0, .ref 36, .bool true, .int 181 0, .ref 37, .none, .ref 38, .ref 39, .ref 40, .int 219 0, .int 17 0, .str "/claim/cut.py" 220]) ::
  (nat_lit 42, oFn "read_bytes1" 4 (.none) (.none) (.str "cpy313.pickletools" 194) (.ref 41)) ::
  (nat_lit 43, oSq (.type "tuple") [.type "bytes", .type "bytearray"]) ::
  (nat_lit 49, oFs (.type "code") [.str "_bytes_from_decode_data" 225, .str "_bytes_from_decode_data" 226, .str "/claim/cut.py" 227, .int 26 0, .int 1 0, .int 0 0, .int 0 0, .int 3 0, .ref 44, .bool true, .int 181 0, .ref 45, .none, .ref 46, .ref 47, .ref 48, .int 229 0, .int 26 0, .str "/claim/cut.py" 230]) ::
  (nat_lit 50, oFn "_bytes_from_decode_data" 7 (.none) (.none) (.str "cpy313.base64" 222) (.ref 49)) ::
  (nat_lit 69, oFs (.type "code") [.str "_ascii_buffer" 252, .str "_ascii_buffer" 253, .str "/claim/cut.py" 254, .int 41 0, .int 1 0, .int 0 0, .int 0 0, .int 3 0, .ref 64, .bool true, .int 181 0, .ref 65, .none, .ref 66, .ref 67, .ref 68, .int 257 0, .int 41 0, .str "/claim/cut.py" 258]) ::
  (nat_lit 70, oFn "_ascii_buffer" 10 (.none) (.none) (.str "binascii" 232) (.ref 69)) ::
  (nat_lit 76, oFs (.type "code") [.str "_buffer" 260, .str "_buffer" 261, .str "/claim/cut.py" 262, .int 52 0, .int 1 0, .int 0 0, .int 0 0, .int 3 0, .ref 71, .bool true, .int 181 0, .ref 72, .none, .ref 73, .ref 74, .ref 75, .int 265 0, .int 52 0, .str "/claim/cut.py" 266]) ::
  (nat_lit 77, oFn "_buffer" 11 (.none) (.none) (.str "binascii" 232) (.ref 76)) ::
  (nat_lit 83, oFs (.type "code") [.str "_truth" 268, .str "_truth" 269, .str "/claim/cut.py" 270, .int 59 0, .int 1 0, .int 0 0, .int 0 0, .int 3 0, .ref 78, .bool true, .int 181 0, .ref 79, .none, .ref 80, .ref 81, .ref 82, .int 273 0, .int 59 0, .str "/claim/cut.py" 274]) ::
  (nat_lit 84, oFn "_truth" 12 (.none) (.none) (.str "binascii" 232) (.ref 83)) ::
  (nat_lit 90, oFs (.type "code") [.str "_b64_value" 278, .str "_b64_value" 279, .str "/claim/cut.py" 280, .int 65 0, .int 1 0, .int 0 0, .int 0 0, .int 3 0, .ref 85, .bool true, .int 181 0, .ref 86, .none, .ref 87, .ref 88, .ref 89, .int 282 0, .int 65 0, .str "/claim/cut.py" 283]) ::
  (nat_lit 91, oFn "_b64_value" 14 (.none) (.none) (.str "binascii" 232) (.ref 90)) ::
  (nat_lit 92, oDi (.type "dict") P [(dE "strict_mode" 285 (.bool false))] 1) ::
  (nat_lit 98, oFs (.type "code") [.str "a2b_base64" 286, .str "a2b_base64" 287, .str "/claim/cut.py" 288, .int 77 0, .int 1 0, .int 1 0, .int 1 0, .int 3 0, .ref 93, .bool true, .int 181 0, .ref 94, .none, .ref 95, .ref 96, .ref 97, .int 298 0, .int 77 0, .str "/claim/cut.py" 299]) ::
  (nat_lit 99, oFn "a2b_base64" 15 (.none) (.ref 92) (.str "binascii" 232) (.ref 98)) ::
  (nat_lit 100, oDi (.type "dict") P [(dE "newline" 301 (.bool true))] 1) ::
  (nat_lit 106, oFs (.type "code") [.str "b2a_base64" 302, .str "b2a_base64" 303, .str "/claim/cut.py" 304, .int 131 0, .int 1 0, .int 1 0, .int 1 0, .int 3 0, .ref 101, .bool true, .int 181 0, .ref 102, .none, .ref 103, .ref 104, .ref 105, .int 312 0, .int 131 0, .str "/claim/cut.py" 313]) ::
  (nat_lit 107, oFn "b2a_base64" 16 (.none) (.ref 100) (.str "binascii" 232) (.ref 106)) ::
  (nat_lit 108, oSq (.type "tuple") [.none]) ::
  (nat_lit 114, oFs (.type "code") [.str "b64encode" 317, .str "b64encode" 318, .str "/claim/cut.py" 319, .int 154 0, .int 2 0, .int 0 0, .int 0 0, .int 3 0, .ref 109, .bool true, .int 181 0, .ref 110, .none, .ref 111, .ref 112, .ref 113, .int 323 0, .int 154 0, .str "/claim/cut.py" 324]) ::
  (nat_lit 115, oFn "b64encode" 18 (.ref 108) (.none) (.str "cpy313.base64" 315) (.ref 114)) ::
  (nat_lit 116, oSq (.type "tuple") [.none, .bool false]) ::
  (nat_lit 122, oFs (.type "code") [.str "b64decode" 326, .str "b64decode" 327, .str "/claim/cut.py" 328, .int 160 0, .int 3 0, .int 0 0, .int 0 0, .int 3 0, .ref 117, .bool true, .int 181 0, .ref 118, .none, .ref 119, .ref 120, .ref 121, .int 332 0, .int 160 0, .str "/claim/cut.py" 333]) ::
  (nat_lit 123, oFn "b64decode" 19 (.ref 116) (.none) (.str "cpy313.base64" 315) (.ref 122)) ::
  (nat_lit 124, oPl (.type "object")) ::
  (nat_lit 125, oSq (.type "tuple") [.ref 124]) ::
  (nat_lit 131, oFs (.type "code") [.str "reduce" 338, .str "reduce" 339, .str "/claim/cut.py" 340, .int 169 0, .int 3 0, .int 0 0, .int 0 0, .int 3 0, .ref 126, .bool true, .int 181 0, .ref 127, .none, .ref 128, .ref 129, .ref 130, .int 347 0, .int 169 0, .str "/claim/cut.py" 348]) ::
  (nat_lit 132, oFn "reduce" 22 (.ref 125) (.none) (.str "cpy313.functools" 335) (.ref 131)) ::
  (nat_lit 136, oFs (.type "code") [.str "_law_orders" 352, .str "_law_orders" 353, .str "/claim/cut.py" 354, .int 182 0, .int 1 0, .int 0 0, .int 0 0, .int 3 0, .ref 133, .bool true, .int 181 0, .ref 134, .none, .none, .none, .ref 135, .int 355 0, .int 182 0, .str "/claim/cut.py" 356]) ::
  (nat_lit 137, oFn "_law_orders" 24 (.none) (.none) (.str "law_pm0025_01" 350) (.ref 136)) ::
  (nat_lit 141, oFs (.type "code") [.str "_law_cells" 358, .str "_law_cells" 359, .str "/claim/cut.py" 360, .int 190 0, .int 1 0, .int 0 0, .int 0 0, .int 3 0, .ref 138, .bool true, .int 181 0, .ref 139, .none, .none, .none, .ref 140, .int 361 0, .int 190 0, .str "/claim/cut.py" 362]) ::
  (nat_lit 142, oFn "_law_cells" 25 (.none) (.none) (.str "law_pm0025_01" 350) (.ref 141)) ::
  (nat_lit 146, oFs (.type "code") [.str "_law_signs" 364, .str "_law_signs" 365, .str "/claim/cut.py" 366, .int 197 0, .int 1 0, .int 0 0, .int 0 0, .int 3 0, .ref 143, .bool true, .int 181 0, .ref 144, .none, .none, .none, .ref 145, .int 367 0, .int 197 0, .str "/claim/cut.py" 368]) ::
  (nat_lit 147, oFn "_law_signs" 26 (.none) (.none) (.str "law_pm0025_01" 350) (.ref 146)) ::
  (nat_lit 153, oFs (.type "code") [.str "_law_stream" 370, .str "_law_stream" 371, .str "/claim/cut.py" 372, .int 205 0, .int 1 0, .int 0 0, .int 0 0, .int 3 0, .ref 148, .bool true, .int 181 0, .ref 149, .none, .ref 150, .ref 151, .ref 152, .int 377 0, .int 205 0, .str "/claim/cut.py" 378]) ::
  (nat_lit 154, oFn "_law_stream" 27 (.none) (.none) (.str "law_pm0025_01" 350) (.ref 153)) ::
  (nat_lit 160, oFs (.type "code") [.str "_law_read" 380, .str "_law_read" 381, .str "/claim/cut.py" 382, .int 215 0, .int 1 0, .int 0 0, .int 0 0, .int 3 0, .ref 155, .bool true, .int 181 0, .ref 156, .none, .ref 157, .ref 158, .ref 159, .int 389 0, .int 215 0, .str "/claim/cut.py" 390]) ::
  (nat_lit 161, oFn "_law_read" 28 (.none) (.none) (.str "law_pm0025_01" 350) (.ref 160)) ::
  (nat_lit 165, oFs (.type "code") [.str "_law_laid" 392, .str "_law_laid" 393, .str "/claim/cut.py" 394, .int 226 0, .int 2 0, .int 0 0, .int 0 0, .int 3 0, .ref 162, .bool true, .int 181 0, .ref 163, .none, .none, .none, .ref 164, .int 395 0, .int 226 0, .str "/claim/cut.py" 396]) ::
  (nat_lit 166, oFn "_law_laid" 29 (.none) (.none) (.str "law_pm0025_01" 350) (.ref 165)) ::
  (nat_lit 170, oFs (.type "code") [.str "law" 398, .str "law" 399, .str "/claim/cut.py" 400, .int 237 0, .int 1 0, .int 0 0, .int 0 0, .int 3 0, .ref 167, .bool true, .int 181 0, .ref 168, .none, .none, .none, .ref 169, .int 401 0, .int 237 0, .str "/claim/cut.py" 402]) ::
  (nat_lit 171, oFn "law" 30 (.none) (.none) (.str "law_pm0025_01" 350) (.ref 170)) :: []
end Mine
/- part H2 -/
namespace Mine
open PySem PySem.W PySem.Calls PyProof.Rows
noncomputable def view : Program := { PySem.Challenge.pw_pm0025_01 with main := { PySem.Challenge.pw_pm0025_01.main with body := PySem.Challenge.pw_pm0025_01.main.body.drop 30 } }
def loose : List Str := ["_wall", "read_uint1", "read_string1", "read_bytes1", "bytes_types", "_bytes_from_decode_data", "Error", "_ascii_buffer", "_buffer", "_truth", "_B64", "_b64_value", "a2b_base64", "b2a_base64", "b64encode", "b64decode", "_initial_missing", "reduce", "_law_orders", "_law_cells", "_law_signs", "_law_stream", "_law_read", "_law_laid"]
def addrs : List Nat := [3, 27, 28, 34, 35, 41, 42, 43, 49, 50, 69, 70, 76, 77, 83, 84, 90, 91, 92, 98, 99, 100, 106, 107, 108, 114, 115, 116, 122, 123, 124, 125, 131, 132, 136, 137, 141, 142, 146, 147, 153, 154, 160, 161, 165, 166, 170, 171]
set_option maxHeartbeats 8000000 in
theorem addrs_eq : ∀ P, addrs = (frag P).map (·.1) := fun P => by kernel_rfl
noncomputable abbrev hook : Hook := kmHook frag addrs addrs_eq [149]
set_option maxHeartbeats 8000000 in
theorem left : LeftO PySem.Challenge.rw_pm0025_01.row.prog view loose (fun s => xlAt view [] s && recOk PySem.Challenge.rw_pm0025_01.row.records s) hook.obs hook.val 2004 := fun w => by
  show Option.map _ (openEnds treeTable PySem.Challenge.pw_pm0025_01 w 2004) = _
  first
  | (delta openEnds fencedOpening topFrom
     rw [Fast.te4187177175401517315, Fast.te10274390034422433532, Fast.te14364793385576792824, Fast.te1435165496053646825, Fast.te14289696077712309145, Fast.te14082659384304107361, Fast.te8920871248978507458, Fast.te5923862056798008813]
     kernel_rfl)
  | kernel_rfl
set_option maxHeartbeats 8000000 in
theorem sd0 : sreFenced PySem.Challenge.rw_pm0025_01.row.prog.main = true := by
  kernel_rfl
set_option maxHeartbeats 8000000 in
theorem sd1 : ((moduleNames PySem.Challenge.rw_pm0025_01.row.prog.main.body).isEmpty || lookedIntoSs (moduleNames PySem.Challenge.rw_pm0025_01.row.prog.main.body) PySem.Challenge.rw_pm0025_01.row.prog.main.body) = true := by
  kernel_rfl
set_option maxHeartbeats 8000000 in
theorem sd2 : namesResolve PySem.Challenge.rw_pm0025_01.row.prog = true := by
  first | (rw [Fast.te8377067652309620493]; kernel_rfl) | kernel_rfl
set_option maxHeartbeats 8000000 in
theorem sd3 : (PySem.Challenge.rw_pm0025_01.row.prog.boundNames.all fun n => !worldNames.contains n) = true := by
  kernel_rfl
set_option maxHeartbeats 8000000 in
theorem sd40 : readsOut PySem.Challenge.rw_pm0025_01.row.prog PySem.Challenge.rw_pm0025_01.row.prog.main.body (Str.ofString "vars") = false := by
  first | (rw [Fast.te13343964577679436407]; kernel_rfl) | kernel_rfl
set_option maxHeartbeats 8000000 in
theorem sd41 : readsOut PySem.Challenge.rw_pm0025_01.row.prog PySem.Challenge.rw_pm0025_01.row.prog.main.body (Str.ofString "dir") = false := by
  first | (rw [Fast.te13343964577679436407]; kernel_rfl) | kernel_rfl
set_option maxHeartbeats 8000000 in
theorem sd42 : readsOut PySem.Challenge.rw_pm0025_01.row.prog PySem.Challenge.rw_pm0025_01.row.prog.main.body (Str.ofString "locals") = false := by
  first | (rw [Fast.te13343964577679436407]; kernel_rfl) | kernel_rfl
set_option maxHeartbeats 8000000 in
theorem sd4s : (importedModules PySem.Challenge.rw_pm0025_01.row.prog.main.body).all cThrough.contains = true := by
  first | (rw [Fast.te5923862056798008813]; kernel_rfl) | kernel_rfl
set_option maxHeartbeats 8000000 in
theorem sd4n : noRoadLSs { strict := !true, foot := none, bare := [] } PySem.Challenge.rw_pm0025_01.row.prog.main.body = true := by
  first | (rw [Fast.te8326940854005059898]; kernel_rfl) | kernel_rfl
theorem sd4 : noRoadLSs { strict := !(importedModules PySem.Challenge.rw_pm0025_01.row.prog.main.body).all cThrough.contains, foot := none, bare := List.filter (readsOut PySem.Challenge.rw_pm0025_01.row.prog PySem.Challenge.rw_pm0025_01.row.prog.main.body) [Str.ofString "vars", Str.ofString "dir", Str.ofString "locals"] } PySem.Challenge.rw_pm0025_01.row.prog.main.body = true := by
  rw [sd4s, List.filter_cons_of_neg (by rw [sd40]; exact Bool.false_ne_true), List.filter_cons_of_neg (by rw [sd41]; exact Bool.false_ne_true), List.filter_cons_of_neg (by rw [sd42]; exact Bool.false_ne_true), List.filter_nil]
  exact sd4n
set_option maxHeartbeats 8000000 in
theorem sd5 : (namesMeet PySem.Challenge.rw_pm0025_01.row.prog PySem.Challenge.rw_pm0025_01.row.prog.main.body fun _ n => attrL n) = true := by
  first | (rw [Fast.te17119622794617984870]; kernel_rfl) | kernel_rfl
set_option maxHeartbeats 8000000 in
theorem sd23 : noClassBlock PySem.Challenge.rw_pm0025_01.prog PySem.Challenge.rw_pm0025_01.footing = true := by
  first | (rw [Fast.te8179353310426384613]; kernel_rfl) | kernel_rfl
set_option maxHeartbeats 8000000 in
theorem sd26 : noRoadLSs { strict := true, foot := some PySem.Challenge.rw_pm0025_01.bound', writes := PySem.Challenge.rw_pm0025_01.writes, may := PySem.Challenge.rw_pm0025_01.may } PySem.Challenge.rw_pm0025_01.footing = true := by
  first | (rw [Fast.te8326940854005059898, Fast.te797321630700447069]; kernel_rfl) | kernel_rfl
set_option maxHeartbeats 8000000 in
theorem sd27 : defStands PySem.Challenge.rw_pm0025_01.about PySem.Challenge.rw_pm0025_01.above = true := by
  first | (rw [Fast.te9558739934217749035]; kernel_rfl) | kernel_rfl
set_option maxHeartbeats 8000000 in
theorem sd28 : PySem.Challenge.rw_pm0025_01.namesIt = true := by
  first | (rw [Fast.te16286561074155671207]; kernel_rfl) | kernel_rfl
set_option maxHeartbeats 8000000 in
theorem sd30 : (PySem.Challenge.rw_pm0025_01.bound'.all fun n => !builtinNamed n || PySem.Challenge.rw_pm0025_01.about == [n] || !PySem.Challenge.rw_pm0025_01.reads n) = true := by
  kernel_rfl
set_option maxHeartbeats 8000000 in
theorem sd32 : ((List.flatMap importedNames PySem.Challenge.rw_pm0025_01.prog.main.body).all fun n => !PySem.Challenge.rw_pm0025_01.reads n || (drawsOf n PySem.Challenge.rw_pm0025_01.prog.main.body).all fun mn => mn.snd != Str.ofString "attrgetter" && mn.snd != Str.ofString "methodcaller") = true := by
  kernel_rfl
set_option maxHeartbeats 8000000 in
theorem sd33 : (namesMeet PySem.Challenge.rw_pm0025_01.prog PySem.Challenge.rw_pm0025_01.footing fun sc n => (!([Str.ofString "type", Str.ofString "isinstance", Str.ofString "issubclass", Str.ofString "getattr", Str.ofString "hasattr"] : List Str).contains n || List.lookup n sc.names == some NameKind.globalImplicit) && (PySem.Challenge.rw_pm0025_01.may != some n || sc.kind == ScopeKind.module || List.lookup n sc.names == some NameKind.globalImplicit)) = true := by
  first | (rw [Fast.te17119622794617984870]; kernel_rfl) | kernel_rfl
set_option maxHeartbeats 8000000 in
theorem sd37 : (namesMeet PySem.Challenge.rw_pm0025_01.prog PySem.Challenge.rw_pm0025_01.above fun _ n => !PySem.Challenge.rw_pm0025_01.own.contains n) = true := by
  first | (rw [Fast.te17119622794617984870]; kernel_rfl) | kernel_rfl
set_option maxHeartbeats 8000000 in
theorem sd38 : (namesMeet PySem.Challenge.rw_pm0025_01.prog PySem.Challenge.rw_pm0025_01.footing fun sc n => sc.kind == ScopeKind.module || List.lookup n sc.names != some NameKind.globalExplicit) = true := by
  first | (rw [Fast.te17119622794617984870]; kernel_rfl) | kernel_rfl
set_option maxHeartbeats 8000000 in
theorem said : PySem.Challenge.rw_pm0025_01.wellSaid = true := by
  unfold OpenLaw.wellSaid OpenRow.wellSaid OpenRow.partSaid looksOpen
  repeat' (with_reducible refine look_both ?_ ?_)
  · exact sd0
  · exact sd1
  · exact sd2
  · exact sd3
  · exact sd4
  · exact sd5
  · kernel_rfl
  · kernel_rfl
  · kernel_rfl
  · kernel_rfl
  · kernel_rfl
  · kernel_rfl
  · kernel_rfl
  · kernel_rfl
  · kernel_rfl
  · kernel_rfl
  · kernel_rfl
  · kernel_rfl
  · kernel_rfl
  · kernel_rfl
  · kernel_rfl
  · kernel_rfl
  · kernel_rfl
  · exact sd23
  · kernel_rfl
  · kernel_rfl
  · exact sd26
  · exact sd27
  · exact sd28
  · kernel_rfl
  · exact sd30
  · kernel_rfl
  · exact sd32
  · exact sd33
  · kernel_rfl
  · kernel_rfl
  · kernel_rfl
  · exact sd37
  · exact sd38
end Mine
/- part C4 -/
namespace Mine
open PySem PySem.W PySem.Calls PyProof.Rows PySem.Builtin PySem.Builtin.Str
abbrev PSt := List Value × Writer × List Nat
noncomputable def pfA (F : PySem.Str) (t : Tok) (b : Addr) : {K : Bool → Sem Fin // Builtin.Str.percentFormat (.str F t) F (.ref b) = isInstance (.ref b) (.type "tuple") >>= K} := ⟨_, rfl⟩
noncomputable def pfB (F : PySem.Str) (t : Tok) (b : Addr) : {K : Option PySem.Str → Sem Fin // (pfA F t b).1 true = asStr? (.ref b) >>= K} := ⟨_, rfl⟩
noncomputable def pfC (F : PySem.Str) (t : Tok) (b : Addr) : {K : Bool → Sem Fin // (pfB F t b).1 none = fillsMappingSlot (.ref b) >>= K} := ⟨_, rfl⟩
noncomputable def pfD (F : PySem.Str) (t : Tok) (b : Addr) (sub : Bool) : {K : Option (Array Value) → Sem Fin // (pfC F t b).1 sub = seqItems? (.ref b) >>= K} := ⟨_, rfl⟩
noncomputable def pfE (F : PySem.Str) (t : Tok) (b : Addr) (sub : Bool) (xs : Array Value) : {K : List Value → Sem Fin // (pfD F t b sub).1 (some xs) = pure xs.toList >>= K} := ⟨_, rfl⟩
noncomputable def pfG (F : PySem.Str) (t : Tok) (b : Addr) (sub : Bool) (xs : Array Value) (p : List Value) : {x : (Nat → PSt → Sem (ForInStep PSt)) × (PSt → Sem Fin) // (pfE F t b sub xs).1 p = forIn [:F.length] ((p, ({} : Writer), F.cps.toList) : PSt) x.1 >>= x.2} := ⟨(_, _), rfl⟩
noncomputable def pfT (F : PySem.Str) (t : Tok) (b : Addr) (sub : Bool) (xs : Array Value) (p0 : List Value) (i : Nat) (p : List Value) (w : Writer) (r : List Nat) : {x : Sem (ForInStep PSt) × Sem (ForInStep PSt) // (pfG F t b sub xs p0).1.1 i (p, w, r) = if tooLong w.total = true then x.1 else x.2} := ⟨(_, _), rfl⟩
noncomputable def pfU (F : PySem.Str) (t : Tok) (b : Addr) (sub : Bool) (xs : Array Value) (p0 : List Value) (i : Nat) (v : Value) (p : List Value) (w : Writer) (r : List Nat) : {x : Sem (List Nat × Option Value × Bool) × (List Nat × Option Value × Bool → Sem (ForInStep PSt)) // (pfT F t b sub xs p0 i (v :: p) w (37 :: 100 :: r)).1.2 = holding [v] x.1 >>= x.2} := ⟨(_, _), rfl⟩
section
variable (F : PySem.Str) (t : Tok) (b : Addr) (sub : Bool) (xs : Array Value) (p0 : List Value) (i : Nat) (n : Int) (u : Tok) (p : List Value) (w : Writer) (r : List Nat)
noncomputable def pfV : {K : Int → Sem (List Nat × Option Value × Bool) // (pfU F t b sub xs p0 i (.int n u) p w r).1.1 = percentIntOf 100 (.int n u) >>= K} := ⟨_, rfl⟩
noncomputable def pfW : {K : Value → Sem (List Nat × Option Value × Bool) // (pfV F t b sub xs p0 i n u p w r).1 n = mkInt n.natAbs >>= K} := ⟨_, rfl⟩
noncomputable def pfX (o : Value) : {K : Value → Sem (List Nat × Option Value × Bool) // (pfW F t b sub xs p0 i n u p w r).1 o = call (.builtin "int.__repr__") [o] >>= K} := ⟨_, rfl⟩
noncomputable def pfY (o d : Value) : {K : Option PySem.Str → Sem (List Nat × Option Value × Bool) // (pfX F t b sub xs p0 i n u p w r o).1 d = asStr? d >>= K} := ⟨_, rfl⟩
noncomputable def pfZ (o d : Value) (x : PySem.Str) : {c : Percent // (pfY F t b sub xs p0 i n u p w r o d).1 (some x) = pure (percentInt c (decide (n < 0)) x.cps.toList, none, true)} := ⟨_, rfl⟩
theorem pfEnd (text : List Nat) : (pfU F t b sub xs p0 i (.int n u) p w r).1.2 (text, none, true) = pure (.yield (p, w.add ⟨text.toArray⟩ none, r)) := by
  show pure (ForInStep.yield (p, w.add ⟨text.toArray⟩ (if r.isEmpty = true then none else none), r)) = _
  rw [ite_self]
theorem pfFin : (pfG F t b sub xs p0).1.2 ([], w, []) = w.finish "str.__mod__" := rfl
end
section
variable {prog : Program} {wd : World} {A : Around} {E : Value → Shared → Prop} {s : Shared} {F : PySem.Str} {t : Tok} {b : Addr} {sub : Bool} {xs : Array Value} {p0 : List Value} {i : Nat} {p : List Value} {w : Writer} {Q : PSt → Shared → Prop} {l : List Nat} {T : PySem.Str} {N : Nat}
theorem lit_step {r r' : List Nat} {x : PySem.Str} (g : KPc.Good w T N) (hN : N ≤ 16777216) (hb : (pfT F t b sub xs p0 i p w r).1.2 = pure (.yield (p, w.add x none, r'))) (h : ∀ w', KPc.Good w' (T ++ x) (N + x.length) → wpAny (model prog wd) A (forIn l ((p, w', r') : PSt) (pfG F t b sub xs p0).1.1) Q E s) :
    wpAny (model prog wd) A (forIn (i :: l) ((p, w, r) : PSt) (pfG F t b sub xs p0).1.1) Q E s :=
  KPc.turn (wpAny_of_eq ((pfT F t b sub xs p0 i p w r).2.trans ((if_neg (KPc.short_good g hN)).trans hb)) (h _ (KPc.good_add g (KPc.obj_none rfl))))
theorem conv_step {n : Int} {u : Tok} {r : List Nat} (g : KPc.Good w T N) (hN : N ≤ 16777216) (hn : 0 ≤ n) (hm : n < 10 ^ 10) (h : ∀ w' k, KPc.Good w' (T ++ PySem.Str.ofString (toString n)) (N + 10) → wpAny (model prog wd) A (forIn l ((p, w', r) : PSt) (pfG F t b sub xs p0).1.1) Q E { s with toks := k }) :
    wpAny (model prog wd) A (forIn (i :: l) ((.int n u :: p, w, 37 :: 100 :: r) : PSt) (pfG F t b sub xs p0).1.1) Q E s := by
  have hl : n.natAbs.log2 < 1920 := shown (N := 10 ^ 10) (by omega) hm (by decide +kernel)
  refine KPc.turn ?_
  rw [(pfT F t b sub xs p0 i (.int n u :: p) w (37 :: 100 :: r)).2.trans ((if_neg (KPc.short_good g hN)).trans (pfU F t b sub xs p0 i (.int n u) p w r).2)]
  refine wpAny_bind (wpAny_holding ?_)
  rw [(pfV F t b sub xs p0 i n u p w r).2]
  refine wpAny_bind (wpAny_of_eq (a := n) rfl ?_)
  rw [(pfW F t b sub xs p0 i n u p w r).2]
  refine wpAny_bind (wpAny_mkInt ?_)
  rw [(pfX F t b sub xs p0 i n u p w r _).2]
  refine wpAny_bind (call_gives PySem.F.slot_int_repr (typeIs_int _ _ _) PySem.F.entry_int_repr (PySem.F.args_int_repr_1 _) (gives_int_repr _ _ (KPt.hd2 hl)) ⟨int_text_fits (KPt.hd2 hl), ?_⟩)
  show wpAny _ _ ((pfX F t b sub xs p0 i n u p w r _).1 _) _ _ _
  rw [(pfY F t b sub xs p0 i n u p w r _ _).2]
  refine wpAny_bind (wpAny_of_eq (a := some _) rfl ?_)
  rw [(pfZ F t b sub xs p0 i n u p w r _ _ _).2]
  refine wpAny_pure ?_
  rw [pfEnd]
  refine wpAny_pure ?_
  exact KPc.after_int g rfl (.inl rfl) rfl hn hm rfl rfl fun w' g' => h w' _ g'
/-- a format of the shape a %d b %d c -/
theorem meets_two {x1 x2 x3 : PySem.Str} {r1 r2 : List Nat} {i1 i2 i3 i4 i5 i6 : Nat} {l6 : List Nat} {n k : Int} {t1 t2 : Tok}
    (hlist : List.range' 0 F.length 1 = i1 :: i2 :: i3 :: i4 :: i5 :: i6 :: l6)
    (e1 : ∀ sub w, (pfT F t b sub #[.int n t1, .int k t2] [.int n t1, .int k t2] i1 [.int n t1, .int k t2] w F.cps.toList).1.2 = pure (.yield ([.int n t1, .int k t2], w.add x1 none, 37 :: 100 :: r1)))
    (e3 : ∀ sub w, (pfT F t b sub #[.int n t1, .int k t2] [.int n t1, .int k t2] i3 [.int k t2] w r1).1.2 = pure (.yield ([.int k t2], w.add x2 none, 37 :: 100 :: r2)))
    (e5 : ∀ sub w, (pfT F t b sub #[.int n t1, .int k t2] [.int n t1, .int k t2] i5 [] w r2).1.2 = pure (.yield ([], w.add x3 none, [])))
    (hz : x1.length ≤ 1000 ∧ x2.length ≤ 1000 ∧ x3.length ≤ 1000) (hn : 0 ≤ n) (hn' : n < 10 ^ 10) (hk : 0 ≤ k) (hk' : k < 10 ^ 10) :
    Meets («str.__mod__» ⟨[.str F t, .ref b], []⟩) (fun _ R s => IsTup s.heap b #[.int n t1, .int k t2] ∧ ∀ t' k', R (.ok (.ret (.str (PySem.Str.empty ++ x1 ++ PySem.Str.ofString (toString n) ++ x2 ++ PySem.Str.ofString (toString k) ++ x3) t'))) { s with toks := k' }) := by
  apply KPt.meets_tup
  intro _ _ _ s _ _ kptH hQ
  obtain ⟨kptO, kptG, kptC, kptN, kptD⟩ := kptH
  rw [KPt.entry_is_r, (pfA F t b).2]
  refine wpAny_bind (wpAny_isInstance (T := "tuple") ⟨kptO, kptG, kptC⟩ KPt.sub_tt ?_)
  rw [(pfB F t b).2]
  refine wpAny_bind (KPt.asStr_ref kptG kptD ?_)
  rw [(pfC F t b).2]
  refine wpAny_bind (KPt.fills_ref ⟨kptO, kptG, kptC⟩ ?_)
  intro sub
  rw [(pfD F t b sub).2]
  refine wpAny_bind (wpAny_seqItems kptG kptD ?_)
  rw [(pfE F t b sub _).2]
  refine wpAny_bind (wpAny_pure ?_)
  rw [(pfG F t b sub _ _).2]
  refine wpAny_bind ?_
  rw [KPc.range_list, hlist]
  refine lit_step KPc.good0 (by decide) (e1 sub _) fun w1 g1 => ?_
  refine conv_step g1 (by omega) hn hn' fun w2 k2 g2 => ?_
  refine lit_step g2 (by omega) (e3 sub _) fun w3 g3 => ?_
  refine conv_step g3 (by omega) hk hk' fun w4 k4 g4 => ?_
  refine lit_step g4 (by omega) (e5 sub _) fun w5 g5 => ?_
  refine KPc.turn (wpAny_of_eq ((pfT F t b sub _ _ i6 [] w5 []).2.trans ((if_neg (KPc.short_good g5 (by omega))).trans (show _ = pure (ForInStep.done ([], w5, [])) from rfl))) ?_)
  show wpAny _ _ ((pfG F t b sub _ _).1.2 ([], w5, [])) _ _ _
  rw [pfFin]
  exact KPc.finish_ok g5 (by omega) rfl fun t' k' => hQ t' k'
/-- the text of a list of signs -/
theorem msg_string {n k : Int} (h1 : 0 ≤ n) (h2 : n < 100000) (h3 : 0 ≤ k) (h4 : k < 100000) {b : Addr} {t t1 t2 : Tok} : Meets («str.__mod__» ⟨[.str (PySem.Str.ofString "expected %d bytes in a string1, but only %d remain") t, .ref b], []⟩) (fun _ R s => IsTup s.heap b #[.int n t1, .int k t2] ∧ ∀ t' k', R (.ok (.ret (.str (PySem.Str.empty ++ PySem.Str.ofString "expected " ++ PySem.Str.ofString (toString n) ++ PySem.Str.ofString " bytes in a string1, but only " ++ PySem.Str.ofString (toString k) ++ PySem.Str.ofString " remain") t'))) { s with toks := k' }) :=
  meets_two (x1 := "expected ") (x2 := " bytes in a string1, but only ") (x3 := " remain") (r1 := (PySem.Str.ofString " bytes in a string1, but only %d remain").cps.toList) (r2 := (PySem.Str.ofString " remain").cps.toList) (i1 := 0) (i2 := 1) (i3 := 2) (i4 := 3) (i5 := 4) (i6 := 5) (l6 := List.range' 6 ((PySem.Str.ofString "expected %d bytes in a string1, but only %d remain").length - 6) 1) (by kernel_rfl) (fun sub w => by kernel_rfl) (fun sub w => by kernel_rfl) (fun sub w => by kernel_rfl) (by decide +kernel) h1 (by omega) h3 (by omega)
theorem msg_bytes {n k : Int} (h1 : 0 ≤ n) (h2 : n < 100000) (h3 : 0 ≤ k) (h4 : k < 100000) {b : Addr} {t t1 t2 : Tok} : Meets («str.__mod__» ⟨[.str (PySem.Str.ofString "expected %d bytes in a bytes1, but only %d remain") t, .ref b], []⟩) (fun _ R s => IsTup s.heap b #[.int n t1, .int k t2] ∧ ∀ t' k', R (.ok (.ret (.str (PySem.Str.empty ++ PySem.Str.ofString "expected " ++ PySem.Str.ofString (toString n) ++ PySem.Str.ofString " bytes in a bytes1, but only " ++ PySem.Str.ofString (toString k) ++ PySem.Str.ofString " remain") t'))) { s with toks := k' }) :=
  meets_two (x1 := "expected ") (x2 := " bytes in a bytes1, but only ") (x3 := " remain") (r1 := (PySem.Str.ofString " bytes in a bytes1, but only %d remain").cps.toList) (r2 := (PySem.Str.ofString " remain").cps.toList) (i1 := 0) (i2 := 1) (i3 := 2) (i4 := 3) (i5 := 4) (i6 := 5) (l6 := List.range' 6 ((PySem.Str.ofString "expected %d bytes in a bytes1, but only %d remain").length - 6) 1) (by kernel_rfl) (fun sub w => by kernel_rfl) (fun sub w => by kernel_rfl) (fun sub w => by kernel_rfl) (by decide +kernel) h1 (by omega) h3 (by omega)
end
end Mine
/- part C3 -/
namespace Mine
open PySem PySem.W PySem.Calls PyProof.Rows PySem.Builtin PySem.Builtin.ObjectAttr

theorem fu_set : Slot "function" "__setattr__" "object.__setattr__" :=
  .of (owner := "object") (n := "__setattr__") (by rw [typeLookup_type, builtinLookup_eq_fast]; kernel_rfl) (by decide +kernel) (by decide +kernel) (by decide +kernel)
    (by first | exact .inl (by decide +kernel) | exact .inr (by decide +kernel)) (by rw [isSubtype_type]; kernel_rfl)
theorem fu_get : Slot "function" "__getattribute__" "object.__getattribute__" :=
  .of (owner := "object") (n := "__getattribute__") (by rw [typeLookup_type, builtinLookup_eq_fast]; kernel_rfl) (by decide +kernel) (by decide +kernel) (by decide +kernel)
    (by first | exact .inl (by decide +kernel) | exact .inr (by decide +kernel)) (by rw [isSubtype_type]; kernel_rfl)
theorem fu_read : typeLookup (.type "function") "read" = pure none := by rw [typeLookup_type, builtinLookup_eq_fast]; kernel_rfl
theorem fu_hook : typeLookup (.type "function") "__getattr__" = pure none := by rw [typeLookup_type, builtinLookup_eq_fast]; kernel_rfl
theorem fu_mro : mroOf (.type "function") = pure [.type "function", .type "object"] := by rw [mroOf_type]; kernel_rfl

theorem fu_store : StoreFacts "function" [.type "function", .type "object"] "object.__setattr__" "object" where
  mro := fu_mro
  slot := fu_set
  entry := F.entry_object_sa
  kind := by decide +kernel
  split := by decide +kernel
  hasOwner := by decide +kernel
  args := fun a b c => by unfold argsOk; kernel_rfl
  passes := fun self => by kernel_rfl
theorem fu_has : typeHasDict (.type "function") = true := by decide +kernel
theorem fu_made (a d : Addr) : dictMade (.type "function") a d = pure (some d) := by
  unfold dictMade
  have : finalisedInACycleAlone "function" = false := by decide +kernel
  simp only [this]
  rfl
section
variable {prog : Program} {w : World} {A : Around} {E : Value → Shared → Prop} {s : Shared} {a : Addr} {o : Obj} {fd : FuncData} {v : Value}
/-- an attribute laid on a function -/
theorem fu_setattr {Q : Unit → Shared → Prop} (ho : s.heap.get? a = some o) (hc : o.cls = .type "function") (hd : o.dict = none) (hdat : o.data = .func fd)
    (h : ∀ d h' tk, s.heap.get? d = none → h'.get? a = some { o with dict := some d } → h'.Ns d (fun y => if y = "read" then some v else none) → (∀ b ob, b ≠ a → s.heap.get? b = some ob → h'.get? b = some ob) → Q () { s with heap := h', toks := tk }) :
    wpAny (model prog w) A (setAttr (.ref a) "read" v) Q E s := by
  have hT : s.TypeIs (.ref a) "function" := ⟨o, ho, hc⟩
  unfold setAttr
  have key : ∀ (tk : Tok) (k : Nat), wpAny (model prog w) A (callSpecial? (.ref a) "__setattr__" [.str "read" tk, v]) (fun r s' => r.isSome = true ∧ Q () s') E { s with toks := k } := by
    intro tk k
    have hT' : ({ s with toks := k } : Shared).TypeIs (.ref a) "function" := ⟨o, ho, hc⟩
    refine wpAny_callSpecial?_slot (name := Str.ofString "__setattr__") hT' fu_set (wpAny_call_entry fu_set hT' F.entry_object_sa ?_ (fu_store.args _ _ _))
    rw [osa_eq, refuse_eq]
    refine wpAny_bind (wpAny_bind (wpAny_typeOf hT' (wpAny_bind (wpAny_of_eq fu_mro (wpAny_of_eq (fu_store.passes _) (wpAny_bind (wpAny_typeOf hT' (wpAny_bind (wpAny_of_eq fu_read ?_)))))))))
    refine wpAny_bind (wpAny_pure ?_)
    show wpAny _ _ (storeInOwnDict (.ref a) (.type "function") (.str "read" tk) "read" v false) _ _ _
    unfold storeInOwnDict
    refine wpAny_bind (m := ownStreamTells _ _) (wpAny_of_eq (a := ()) (by rfl) ?_)
    refine wpAny_bind ?_
    show wpAny _ _ (instanceDict a true) _ _ _
    unfold instanceDict
    refine wpAny_bind (wpAny_loadPart ho ?_)
    rw [hc]
    refine wpAny_bind (wpAny_pure ?_)
    rw [hd]
    rw [if_neg (by rw [fu_has]; decide)]
    rw [hdat]
    have hx₁ : (s.heap.push { cls := .type "dict", data := .dict #[] }).get? a = some o := Heap.get?_push_of_some _ ho
    have hxs : a ≠ s.heap.objs.size := Nat.ne_of_lt (Heap.lt_size ho)
    refine wpAny_bind (wpAny_alloc' ?_)
    refine wpAny_bind (wpAny_update' hx₁ ?_)
    refine wpAny_of_eq (fu_made _ _) ?_
    have hgd : ((s.heap.push { cls := .type "dict", data := .dict #[] }).update a fun o => { o with dict := some s.heap.objs.size }).get? s.heap.objs.size = some { cls := .type "dict", data := .dict #[] } :=
      (Heap.get?_update_ne _ _ _ _ hxs.symm).trans (Heap.get?_push_at rfl rfl)
    have hga : ((s.heap.push { cls := .type "dict", data := .dict #[] }).update a fun o => { o with dict := some s.heap.objs.size }).get? a = some { o with dict := some s.heap.objs.size } := by
      refine Heap.get?_update_self _ hx₁ ?_
      obtain ⟨oc, od, odt, osl⟩ := o
      simp only at hdat
      subst hdat
      rfl
    have hnd : ((s.heap.push { cls := .type "dict", data := .dict #[] }).update a fun o => { o with dict := some s.heap.objs.size }).Ns s.heap.objs.size (fun _ => none) :=
      ⟨_, #[], _, hgd, rfl, fun e he => absurd he (by simp), fun _ => rfl⟩
    show wpAny _ _ (storeInDict s.heap.objs.size (.str "read" tk) "read" v) _ _ _
    unfold storeInDict newKeyGuard
    refine wpAny_bind (wpAny_pure (wpAny_bind (wpAny_nsSet1 (Heap.Ns1.of_empty hnd) fun h' hn' hs => ?_)))
    obtain ⟨oD, esD, epD, hoD, hdD, hcD⟩ := hn'.count (Within.cons "read" v Within.nil)
    refine wpAny_bind (wpAny_lookBehind hoD (by rw [hdD]; exact pastItsLine_dict (Nat.le_trans hcD (by rw [List.length_cons, List.length_nil, sizeLine_eq]; omega))) ?_)
    refine wpAny_pure ⟨_, rfl, rfl, ?_⟩
    refine h s.heap.objs.size h' _ (Heap.get?_none_of_le (Nat.le_refl _)) ((hs.2 a hxs).trans hga) ?_ fun b ob hb e => (hs.2 b (Nat.ne_of_lt (Heap.lt_size e))).trans ((Heap.get?_update_ne _ _ _ _ hb).trans (Heap.get?_push_of_some _ e))
    obtain ⟨o', es, ep, e1, e2, e3, eu, e4⟩ := hn'
    exact ⟨o', es, ep, e1, e2, e3, e4⟩
  refine wpAny_bind (wpAny_bind (wpAny_fresh' (wpAny_pure (wpAny_bind ?_))))
  refine wpAny_mono (key _ _) (fun r s' q => ?_) fun _ _ x => x
  obtain ⟨q1, q2⟩ := q
  cases r with
  | none => cases q1
  | some r => exact wpAny_pure q2

theorem fu_find {M : Model} {d : Addr} {m : Str → Option Value} {r : Addr} {tk : Tok} {Q : Fin → Shared → Prop} (ho : s.heap.get? a = some o) (hc : o.cls = .type "function") (hd : o.dict = some d) (hdat : o.data = .func fd) (hn : s.heap.Ns d m) (hm : m "read" = some (.ref r))
    (h : Q (.done (.ret (.ref r))) s) : wpAny M A (Builtin.«object.__getattribute__» ⟨[.ref a, .str "read" tk], []⟩) Q E s := by
  have hT : s.TypeIs (.ref a) "function" := ⟨o, ho, hc⟩
  unfold Builtin.«object.__getattribute__»
  refine wpAny_bind (m := slotArgs "__getattribute__" 1 _) (wpAny_of_eq (a := (.ref a, [.str "read" tk])) (by rfl) ?_)
  refine wpAny_bind (m := attrName _) (wpAny_of_eq (a := Str.ofString "read") (by rfl) ?_)
  refine wpAny_bind (wpAny_typeOf hT ?_)
  refine wpAny_bind ?_
  unfold find
  refine wpAny_bind (wpAny_of_eq fu_read ?_)
  refine wpAny_bind (m := getOf none) (wpAny_pure ?_)
  refine wpAny_bind (m := dataDescriptor? none none) (wpAny_pure ?_)
  show wpAny _ _ (ownThenClass (.ref a) "read" none none) _ _ _
  unfold ownThenClass
  refine wpAny_bind ?_
  show wpAny _ _ (ObjectAttr.ownDict a >>= fun x => inDict "read" x) _ _ _
  refine wpAny_bind ?_
  unfold ObjectAttr.ownDict
  refine wpAny_bind (m := loadHead a) (wpAny_loadPart ho ?_)
  rw [hdat]
  show wpAny _ _ (instanceDict a false) _ _ _
  unfold instanceDict
  refine wpAny_bind (wpAny_loadPart ho ?_)
  rw [hc]
  refine wpAny_bind (wpAny_pure ?_)
  rw [hd]
  refine wpAny_pure ?_
  show wpAny _ _ (nsGet d "read") _ _ _
  refine wpAny_nsGet hn ?_
  rw [hm]
  exact wpAny_bind (wpAny_rule (wpAny_pure (wpAny_pure h)))
theorem fu_getattr {d : Addr} {m : Str → Option Value} {r : Addr} {Q : Value → Shared → Prop} (ho : s.heap.get? a = some o) (hc : o.cls = .type "function") (hd : o.dict = some d) (hdat : o.data = .func fd) (hn : s.heap.Ns d m) (hm : m "read" = some (.ref r))
    (h : ∀ tk, Q (.ref r) { s with toks := tk }) : wpAny (model prog w) A (getAttr (.ref a) "read") Q E s := by
  unfold getAttr
  refine wpAny_bind (wpAny_bind (wpAny_fresh' (wpAny_pure ?_)))
  unfold getAttrBy
  refine wpAny_holding ?_
  have hT : ({ s with toks := s.toks + 1 } : Shared).TypeIs (.ref a) "function" := ⟨o, ho, hc⟩
  refine wpAny_bind (wpAny_typeOf hT (wpAny_bind (wpAny_of_eq fu_get.lookup ?_)))
  show wpAny _ _ (getAttrByItsOwn (.ref a) (.str "read" s.toks) (.type "function") (.builtin "object.__getattribute__") true false) _ _ _
  unfold getAttrByItsOwn
  refine wpAny_bind (m := hookBefore _) (wpAny_of_eq (a := none) (by rfl) ?_)
  refine wpAny_bind (wpAny_attempt (wpAny_holding ?_))
  show wpAny _ _ (boundAndCalled (.builtin "object.__getattribute__") (.ref a) (.str "read" s.toks)) _ _ _
  unfold boundAndCalled
  refine wpAny_bind (wpAny_of_eq (fu_get.bind _) ?_)
  refine wpAny_call_entry fu_get hT F.entry_object_getattribute ?_ (F.args_object_getattribute_2 _ _)
  refine fu_find ho hc hd hdat hn hm ⟨_, rfl, ?_⟩
  exact wpAny_pure (h _)
/-- a method call on a function's attribute -/
theorem fu_method {d : Addr} {m : Str → Option Value} {r : Addr} {pl : Sem Bool} {Q : Value × List Value → Shared → Prop} (ho : s.heap.get? a = some o) (hc : o.cls = .type "function") (hd : o.dict = some d) (hdat : o.data = .func fd) (hn : s.heap.Ns d m) (hm : m "read" = some (.ref r))
    (h : ∀ tk, Q (.ref r, []) { s with toks := tk }) : wpAny (model prog w) A (getMethod (.ref a) "read" pl) Q E s := by
  have hT : s.TypeIs (.ref a) "function" := ⟨o, ho, hc⟩
  unfold getMethod
  refine wpAny_bind (wpAny_specialOf hT fu_get.lookup ?_)
  have hcan : (Manifest.canonical "object.__getattribute__" != "object.__getattribute__") = false := by decide +kernel
  simp only [hcan, Bool.false_eq_true, if_false]
  refine wpAny_bind (wpAny_specialOf hT fu_hook ?_)
  refine wpAny_bind (wpAny_specialOf hT fu_read ?_)
  exact wpAny_bind (fu_getattr ho hc hd hdat hn hm fun tk => wpAny_pure (h tk))
end
end Mine
/- part C1 -/
namespace Mine
open PySem PySem.W PySem.Calls PyProof.Rows PySem.Builtin PySem.Builtin._codecs

theorem sem_forIn_stop {β : Type} (f : Nat → β → Sem (ForInStep β)) (b b' : β) (h : ∀ i, f i b = pure (.done b')) : ∀ l : List Nat, b = b' → forIn l b f = pure b'
  | [], e => by rw [e]; rfl
  | i :: r, e => by rw [List.forIn_cons, h i, pure_bind]
theorem dec_latin (id : String) (b : Array UInt8) (hz : b.size ≤ 100000) : runDecoder id latin1Decoder none true b 0 [] = pure (b.map (·.toNat), b.size) := by
  unfold runDecoder
  simp only [latin1Decoder, Std.Legacy.Range.forIn_eq_forIn_range', Std.Legacy.Range.size]
  have key : ∀ (F : Nat → Nat × Array Nat × Faults → Sem (ForInStep (Nat × Array Nat × Faults))) (st : Faults),
      (∀ i p out, p < b.size → out.size ≤ sizeLine → F i (p, out, st) = pure (.yield (p + 1, out ++ [(b.getD p 0).toNat].toArray, st))) →
      ∀ (n p : Nat) (o : Nat), p + n = b.size → forIn (List.range' o n) (p, (b.map (·.toNat)).extract 0 p, st) F = pure (b.size, b.map (·.toNat), st) := by
    intro F st hF n
    induction n with
    | zero =>
      intro p o hp
      obtain rfl : p = b.size := by omega
      have : (Array.map (fun x => x.toNat) b).extract 0 b.size = Array.map (fun x => x.toNat) b := by simp
      rw [this]; rfl
    | succ n ih =>
      intro p o hp
      have hl : 100000 ≤ sizeLine := by decide
      rw [List.range'_succ, List.forIn_cons, hF o p _ (by omega) (by simp; omega), pure_bind]
      have e : (b.map (·.toNat)).extract 0 p ++ [(b.getD p 0).toNat].toArray = (b.map (·.toNat)).extract 0 (p + 1) := by
        have hp' : p < b.size := by omega
        apply Array.ext'
        simp [Array.toList_extract, List.take_add_one, hp']
      simp only [e]
      exact ih (p + 1) (o + 1) (by omega)
  have key' : ∀ (F : Nat → Nat × Array Nat × Faults → Sem (ForInStep (Nat × Array Nat × Faults))) (st : Faults),
      (∀ i p out, p < b.size → out.size ≤ sizeLine → F i (p, out, st) = pure (.yield (p + 1, out ++ [(b.getD p 0).toNat].toArray, st))) →
      (forIn (List.range' 0 b.size) (0, #[], st) F >>= fun s => pure (s.2.1, s.1)) = (pure (b.map (·.toNat), b.size) : Sem (Array Nat × Nat)) := fun F st hF => by
    have k := key F st hF b.size 0 0 (by omega)
    have h0 : (Array.map (fun x => x.toNat) b).extract 0 0 = #[] := by simp
    rw [h0] at k
    rw [k, pure_bind]
  rw [show (b.size - 0 + 1 - 1) / 1 = b.size by omega]
  refine key' _ { } ?_
  intro i p out hp ho
  have h1 : ¬ out.size > sizeLine := by omega
  have h2 : ¬ p ≥ b.size := by omega
  simp only [h1, h2, if_false]
  rfl
theorem enc_fold : ∀ (l : List Nat) (out : Array UInt8), l.foldl (fun acc y => acc ++ #[y.toUInt8]) out = out ++ (l.map (·.toUInt8)).toArray
  | [], out => by simp
  | a :: l, out => by rw [List.foldl_cons, enc_fold l]; simp
theorem enc_ascii (id : String) (self : Value) (x : Str) (h : ∀ c ∈ x.cps.toList, c < 128) (hz : x.length ≤ 100000) : encodeNarrow id asciiCodec none self x = pure (x.cps.map (·.toUInt8)) := by
  unfold encodeNarrow
  simp only [asciiCodec, Std.Legacy.Range.forIn_eq_forIn_range', Std.Legacy.Range.size]
  have hn : x.length = x.cps.size := rfl
  have hl : 100000 ≤ sizeLine := by decide
  have key : ∀ (F : Nat → Nat × Array UInt8 × Faults → Sem (ForInStep (Nat × Array UInt8 × Faults))) (st : Faults),
      (F 0 (0, #[], st) = if 0 < x.cps.size then pure (.yield (x.cps.size, x.cps.map (·.toUInt8), st)) else F 0 (0, #[], st)) →
      (∀ i, F i (x.cps.size, x.cps.map (·.toUInt8), st) = pure (.done (x.cps.size, x.cps.map (·.toUInt8), st))) → forIn (List.range' 0 x.cps.size) (0, #[], st) F = pure (x.cps.size, x.cps.map (·.toUInt8), st) := by
    intro F st h1 h2
    cases hs : x.cps.size with
    | zero =>
      have : x.cps = #[] := Array.eq_empty_of_size_eq_zero hs
      rw [this]; simp
    | succ n =>
      rw [List.range'_succ, List.forIn_cons, h1, if_pos (by omega), pure_bind]
      rw [← hs]
      exact sem_forIn_stop _ _ _ h2 _ rfl
  rw [show (x.length - 0 + 1 - 1) / 1 = x.cps.size by omega]
  refine (congrArg (· >>= fun s => pure s.2.1) (key _ { } ?_ ?_)).trans (pure_bind _ _)
  · by_cases hs : 0 < x.cps.size
    · rw [if_pos hs]
      have e0 : x.cps[0]? = some x.cps[0] := by simp [hs]
      have h0 : x.cps[0] < 128 := h _ (by simp)
      have hsz : ¬ (#[] : Array UInt8).size > sizeLine := by simp
      have hx : Array.findIdx? (fun x => decide (x ≥ 128)) (x.cps.extract 0) = none := by
        simp only [Array.extract_size, Array.findIdx?_eq_none_iff]
        intro y hy
        have := h y (by simpa using hy)
        simp; omega
      simp only [hsz, if_false, e0]
      have hb : (!decide (x.cps[0] ≥ 128)) = true := by simp; omega
      simp only [hb, if_true, hx, Option.getD_none]
      have hee : x.cps.extract 0 = x.cps := by simp
      simp only [hee, Nat.zero_add]
      congr 3
      rw [← Array.foldl_toList, enc_fold]
      refine congrArg (·, _) (Array.ext' ?_)
      simp
    · rw [if_neg hs]
  · intro i
    have h1 : ¬ (Array.map (fun y => y.toUInt8) x.cps).size > sizeLine := by simp; omega
    have h2 : x.cps[x.cps.size]? = none := by simp
    simp only [h1, if_false, h2]
theorem enc_tree (x : Str) (t u : Tok) : «str.encode» ⟨[.str x t, .str "ascii" u], []⟩ = (do ret (← encodeRoad "str.encode" (.str x t) x (Str.ofString "ascii") none)) := by first | rfl | kernel_rfl
theorem enc_road (id : String) (self : Value) (x : Str) (errors : Option Str) : encodeRoad id self x (Str.ofString "ascii") errors = (do mkBytes (← encodeNarrow id asciiCodec errors self x)) := by
  first | rfl | (unfold encodeRoad; rfl) | (unfold encodeRoad; simp only []; rfl) | decide
theorem dec_road {id : String} {b : Array UInt8} : _codecs.decodeRoad id b (PySem.Str.ofString "latin-1") none [] = (_codecs.runDecoder id _codecs.latin1Decoder none true b 0 [] >>= fun r => mkStr ⟨r.1⟩) := by kernel_rfl
theorem dec_entry {c : UInt8} {cs : List UInt8} {t u : Tok} : «bytes.decode» ⟨[.bytes (c :: cs).toArray t, .str "latin-1" u], []⟩ = (mkStr (PySem.Str.ofString "utf-8") >>= fun _ => mkStr (PySem.Str.ofString "latin-1") >>= fun e => mkStr (PySem.Str.ofString "bytes.decode") >>= fun d =>
    call (.builtin "_codecs.decode.text") [.bytes (c :: cs).toArray t, e, .none, d] >>= fun v => ret v) := by kernel_rfl
theorem dec_empty {t u : Tok} : «bytes.decode» ⟨[.bytes #[] t, .str "latin-1" u], []⟩ = (rule "bytes.decode.empty" >>= fun _ => retStr Str.empty) := by kernel_rfl

section
variable {prog : Program} {w : World} {A : Around} {E : Value → Shared → Prop} {s : Shared}
theorem call_encode {x : Str} {t u : Tok} {Q : Value → Shared → Prop} (h : ∀ c ∈ x.cps.toList, c < 128) (hz : x.length ≤ 100000) (hq : ∀ t' k, Q (.bytes (x.cps.map (·.toUInt8)) t') { s with toks := k }) :
    wpAny (model prog w) A (call (.builtin "str.encode") [.str x t, .str "ascii" u]) Q E s := by
  have m : Meets («str.encode» ⟨[.str x t, .str "ascii" u], []⟩) (fun _ R s => ∀ t' k, R (.ok (.ret (.bytes (x.cps.map (·.toUInt8)) t'))) { s with toks := k }) := by
    refine .of_wp fun prog w A R s hS => ?_
    rw [enc_tree]
    refine wpAny_bind ?_
    rw [enc_road, enc_ascii _ _ _ h hz]
    refine wpAny_bind (wpAny_pure ?_)
    exact wpAny_mkBytes (wpAny_pure ⟨_, rfl, hS _ _⟩) (Nat.le_trans (Nat.le_of_eq (Array.size_map ..)) (Nat.le_trans hz (by decide)))
  exact call_meets F.slot_str_encode (typeIs_str _ _ _) F.entry_str_encode (F.args_str_encode_2 _ _) m hq
theorem args_dec2 {a b : Value} : argsOk "bytes.decode" ⟨[a, b], []⟩ := by unfold argsOk; kernel_rfl
theorem call_decode {b : Array UInt8} {t u : Tok} {Q : Value → Shared → Prop} (hz : b.size ≤ 100000) (hq : ∀ t' k, Q (.str ⟨b.map (·.toNat)⟩ t') { s with toks := k }) :
    wpAny (model prog w) A (call (.builtin "bytes.decode") [.bytes b t, .str "latin-1" u]) Q E s := by
  have m : Meets («bytes.decode» ⟨[.bytes b t, .str "latin-1" u], []⟩) (fun _ R s => ∀ t' k, R (.ok (.ret (.str ⟨b.map (·.toNat)⟩ t'))) { s with toks := k }) := by
    refine .of_wp fun prog w A R s hS => ?_
    have hs : (⟨b.map (·.toNat)⟩ : Str).length ≤ sizeLine := by
      have : 100000 ≤ sizeLine := by decide
      show (b.map (·.toNat)).size ≤ _
      simp; omega
    obtain ⟨l⟩ := b
    cases l with
    | nil =>
      rw [dec_empty]
      refine wpAny_bind (wpAny_rule ?_)
      have he : (⟨Array.map (fun x : UInt8 => x.toNat) ⟨[]⟩⟩ : Str) = Str.empty := congrArg Str.mk (by simp)
      rw [he] at hS
      exact wpAny_bind (wpAny_mkStr (wpAny_pure ⟨_, rfl, hS _ _⟩) (by decide))
    | cons c cs =>
      rw [dec_entry]
      refine wpAny_bind (wpAny_mkStr ?_ (by decide))
      refine wpAny_bind (wpAny_mkStr ?_ (by decide))
      refine wpAny_bind (wpAny_mkStr ?_ (by decide))
      have m2 : ∀ {t1 t2 : Tok}, Meets («_codecs.decode.text» ⟨[.bytes (c :: cs).toArray t, .str (PySem.Str.ofString "latin-1") t1, .none, .str (PySem.Str.ofString "bytes.decode") t2], []⟩) (fun _ R s => ∀ t' k, R (.ok (.ret (.str ⟨(c :: cs).toArray.map (·.toNat)⟩ t'))) { s with toks := k }) := by
        intro t1 t2
        refine .of_wp fun prog w A R s hS => ?_
        show wpAny _ _ (Bytes.bytesLike _ (.bytes (c :: cs).toArray t) >>= fun r => _) _ _ s
        refine wpAny_bind (wpAny_of_eq KBd.like_eq ?_)
        refine wpAny_bind (wpAny_of_eq KBd.held_eq ?_)
        show wpAny _ _ (_codecs.decodeRoad _ (c :: cs).toArray (PySem.Str.ofString "latin-1") none [] >>= fun v => _) _ _ s
        rw [dec_road, dec_latin _ _ hz]
        refine wpAny_bind (wpAny_bind (wpAny_pure ?_))
        exact wpAny_mkStr (wpAny_pure ⟨_, rfl, hS _ _⟩) hs
      exact wpAny_bind (call_function_meets KBd.kind_text KBd.plain_text KBd.entry_text (KBd.args_text _ _ _ _) m2 fun t' k => wpAny_pure ⟨_, rfl, hS _ _⟩)
  exact call_meets FB.slot_bytes_decode (typeIs_bytes _ _ _) FB.entry_bytes_decode args_dec2 m hq
theorem meth_decode {M : Model} {b : Array UInt8} {t : Tok} {pl : Sem Bool} {Q : Value × List Value → Shared → Prop} (h : Q (.builtin "bytes.decode", [.bytes b t]) s) : wpAny M A (getMethod (.bytes b t) "decode" pl) Q E s := KBd.method h
theorem meth_encode {M : Model} {x : Str} {t : Tok} {pl : Sem Bool} {Q : Value × List Value → Shared → Prop} (h : Q (.builtin "str.encode", [.str x t]) s) : wpAny M A (getMethod (.str x t) "encode" pl) Q E s := by
  with_reducible exact getMethod_builtin (typeIs_str _ _ _) F.plainAttrs_str F.slot_str_encode F.type_str_encode (fun _ e => nomatch e) h
theorem meth_join {M : Model} {x : Str} {t : Tok} {pl : Sem Bool} {Q : Value × List Value → Shared → Prop} (h : Q (.builtin "str.join", [.str x t]) s) : wpAny M A (getMethod (.str x t) "join" pl) Q E s := GM.join h
end
end Mine
/- part B1 -/
namespace Mine
open PySem PySem.W PySem.Calls PyProof.Rows
variable {b0 : Nat}

theorem turn_lt {n i : Nat} (h : i < n) : n + 1 - (i + 1) < n + 1 - i := by omega
/-- data -/
inductive D where
  | none
  | bool (b : Bool)
  | int (i : Int)
  | str (x : Str)
  | bytes (b : Array UInt8)
  | list (ds : List D)
  | tup (ds : List D)
  | val (v : Value)

abbrev Vw := Addr → Option Obj
/-- a heap seen without the addresses in T -/
def vw (T : List Addr) (h : Heap) : Vw := fun a => if a ∈ T then none else h.get? a

mutual
inductive DAt (g : Vw) : Value → D → Prop
  | none : DAt g Value.none D.none
  | bool (b : Bool) : DAt g (Value.bool b) (D.bool b)
  | int (i : Int) (t : Tok) : DAt g (Value.int i t) (D.int i)
  | str (x : Str) (t : Tok) : DAt g (Value.str x t) (D.str x)
  | bytes (b : Array UInt8) (t : Tok) : DAt g (Value.bytes b t) (D.bytes b)
  | list {a : Addr} {o : Obj} {vs : Array Value} {n : Nat} {ds : List D} : g a = some o → o.cls = .type "list" → o.data = .seq vs n → DAll g vs.toList ds → DAt g (Value.ref a) (D.list ds)
  | tup {a : Addr} {o : Obj} {vs : Array Value} {n : Nat} {ds : List D} : g a = some o → o.cls = .type "tuple" → o.data = .seq vs n → DAll g vs.toList ds → DAt g (Value.ref a) (D.tup ds)
  | val (v : Value) : DAt g v (D.val v)
inductive DAll (g : Vw) : List Value → List D → Prop
  | nil : DAll g [] []
  | cons {v : Value} {vs : List Value} {d : D} {ds : List D} : DAt g v d → DAll g vs ds → DAll g (v :: vs) (d :: ds)
end

/-- of two views: all lists and tuples of the one stand in the other -/
def Sub (g g' : Vw) : Prop := ∀ a o, g a = some o → (o.cls = .type "list" ∨ o.cls = .type "tuple") → (∃ vs n, o.data = .seq vs n) → g' a = some o

mutual
theorem DAt.mono {g g' : Vw} (hs : Sub g g') : ∀ {v : Value} {d : D}, DAt g v d → DAt g' v d
  | _, _, .none => .none
  | _, _, .bool b => .bool b
  | _, _, .int i t => .int i t
  | _, _, .str x t => .str x t
  | _, _, .bytes b t => .bytes b t
  | _, _, .list h c e r => .list (hs _ _ h (.inl c) ⟨_, _, e⟩) c e (DAll.mono hs r)
  | _, _, .tup h c e r => .tup (hs _ _ h (.inr c) ⟨_, _, e⟩) c e (DAll.mono hs r)
  | _, _, .val v => .val v
theorem DAll.mono {g g' : Vw} (hs : Sub g g') : ∀ {vs : List Value} {ds : List D}, DAll g vs ds → DAll g' vs ds
  | _, _, .nil => .nil
  | _, _, .cons h r => .cons (DAt.mono hs h) (DAll.mono hs r)
end

theorem DAll.length {g : Vw} : ∀ {vs : List Value} {ds : List D}, DAll g vs ds → vs.length = ds.length
  | _, _, .nil => rfl
  | _, _, .cons _ r => congrArg (· + 1) (DAll.length r)
theorem DAll.append {g : Vw} : ∀ {vs ws : List Value} {ds es : List D}, DAll g vs ds → DAll g ws es → DAll g (vs ++ ws) (ds ++ es)
  | _, _, _, _, .nil, k => k
  | _, _, _, _, .cons h r, k => .cons h (DAll.append r k)
theorem DAll.get {g : Vw} : ∀ {vs : List Value} {ds : List D}, DAll g vs ds → ∀ {i : Nat} {v : Value}, vs[i]? = some v → ∃ d, ds[i]? = some d ∧ DAt g v d
  | _, _, .nil, i, v, e => by simp at e
  | _, _, .cons h r, 0, v, e => by simp at e; subst e; exact ⟨_, rfl, h⟩
  | _, _, .cons h r, i + 1, v, e => by simp at e ⊢; exact DAll.get r e
theorem DAll.get' {g : Vw} : ∀ {vs : List Value} {ds : List D}, DAll g vs ds → ∀ {i : Nat} {d : D}, ds[i]? = some d → ∃ v, vs[i]? = some v ∧ DAt g v d
  | _, _, .nil, i, d, e => by simp at e
  | _, _, .cons h r, 0, d, e => by simp at e; subst e; exact ⟨_, rfl, h⟩
  | _, _, .cons h r, i + 1, d, e => by simp at e ⊢; exact DAll.get' r e
theorem DAll.take {g : Vw} : ∀ {vs : List Value} {ds : List D}, DAll g vs ds → ∀ n, DAll g (vs.take n) (ds.take n)
  | _, _, .nil, n => by simp; exact .nil
  | _, _, .cons h r, 0 => .nil
  | _, _, .cons h r, n + 1 => .cons h (DAll.take r n)
theorem DAll.drop {g : Vw} : ∀ {vs : List Value} {ds : List D}, DAll g vs ds → ∀ n, DAll g (vs.drop n) (ds.drop n)
  | _, _, .nil, n => by simp; exact .nil
  | _, _, .cons h r, 0 => .cons h r
  | _, _, .cons h r, n + 1 => DAll.drop r n

/-- the code table of _law_stream: what stands in it for a place is a code of the right name -/
def posRead : Pos := ⟨208, 4, 211, 20⟩
def posLam : Pos := ⟨212, 13, 212, 25⟩
def qualRead : Str := Str.ofString "_law_stream.<locals>.read"
def qualLam : Str := Str.ofString "_law_stream.<locals>.<lambda>"
def TabFor (h : Heap) (ps : Array Value) (pos : Pos) (qual : Str) : Prop :=
  codeAmong pos ps.toList = none ∨ ∃ c', codeAmong pos ps.toList = some (.ref c') ∧ h.CodeRec (.ref c') qual
def TabOk (h : Heap) : Prop :=
  ∃ ps, h.get? 149 = some (tabObj ps) ∧ TriplesOk ps.toList ∧ TabFor h ps posRead qualRead ∧ TabFor h ps posLam qualLam

/-- the written top stands in the heap -/
structure Base (b0 : Nat) (w : World) (g : Heap) (p : Program) (loose : List Str) (mean : ExcName → Option Value) (mg mb : Str → Option Value) : Prop where
  K : (frag w.params).In g
  T : Top p loose mean mg mb g
  C : CodeHd g 153 149
  no : g.get? 149 = none
  size : g.objs.size ≤ b0
structure Wd (b0 : Nat) (w : World) (h : Heap) : Prop where
  ex : ∃ g p loose mean mg mb, (∀ b o, g.get? b = some o → h.get? b = some o) ∧ Base b0 w g p loose mean mg mb
  tab : TabOk h

/-- what a heap keeps: all but the code table -/
def Up (b0 : Nat) (h' : Heap) (b : Addr) (o : Obj) : Prop := h'.get? b = some o ∨ (b0 ≤ b ∧ ∃ es ep sl, o.data = .dict es ep ∧ h'.get? b = some { o with slots := sl })
theorem Up.there {h' : Heap} {b : Addr} {o : Obj} (u : Up b0 h' b o) : ∃ o', h'.get? b = some o' := by
  rcases u with e | ⟨_, _, _, _, _, e⟩
  · exact ⟨_, e⟩
  · exact ⟨_, e⟩
theorem Up.nd {h' : Heap} {b : Addr} {o : Obj} (u : Up b0 h' b o) (n : ∀ es ep, o.data ≠ .dict es ep) : h'.get? b = some o := by
  rcases u with e | ⟨_, es, ep, _, d, _⟩
  · exact e
  · exact absurd d (n es ep)
theorem Up.lo {h' : Heap} {b : Addr} {o : Obj} (u : Up b0 h' b o) (n : b < b0) : h'.get? b = some o := by
  rcases u with e | ⟨k, _⟩
  · exact e
  · exact absurd k (Nat.not_le.mpr n)
theorem Up.next {h' h'' : Heap} {b : Addr} {o : Obj} (u : Up b0 h' b o) (n : ∀ o', h'.get? b = some o' → Up b0 h'' b o') : Up b0 h'' b o := by
  rcases u with e | ⟨k, es, ep, sl, d, e⟩
  · exact n _ e
  · rcases n _ e with e' | ⟨_, _, _, sl', _, e'⟩
    · exact .inr ⟨k, es, ep, sl, d, e'⟩
    · exact .inr ⟨k, es, ep, sl', d, e'⟩
theorem Up.exact {h' h'' : Heap} {b : Addr} {o : Obj} (u : Up b0 h' b o) (n : ∀ o', h'.get? b = some o' → h''.get? b = some o') : Up b0 h'' b o := u.next fun o' e => .inl (n o' e)
def Grow (b0 : Nat) (h h' : Heap) : Prop := (∀ b o, b ≠ 149 → h.get? b = some o → Up b0 h' b o) ∧ (TabOk h → TabOk h')
theorem Grow.refl (h : Heap) : Grow b0 h h := ⟨fun _ _ _ e => .inl e, id⟩
theorem Grow.trans {h h' h'' : Heap} (x : Grow b0 h h') (y : Grow b0 h' h'') : Grow b0 h h'' := ⟨fun b o n e => (x.1 b o n e).next fun o' e' => y.1 b o' n e', fun t => y.2 (x.2 t)⟩
theorem TabOk.keeps {h h' : Heap} (x : TabOk h) (k : ∀ b o, h.get? b = some o → h'.get? b = some o) : TabOk h' := by
  obtain ⟨ps, h1, h2, h3, h4⟩ := x
  refine ⟨ps, k _ _ h1, h2, h3.imp id ?_, h4.imp id ?_⟩ <;> exact fun ⟨c, a, b⟩ => ⟨c, a, b.keeps k⟩
/-- the same, but for an object that is no code -/
theorem TabOk.keepsBut {h h' : Heap} {a : Addr} {oa : Obj} (x : TabOk h) (ha : h.get? a = some oa) (hn : ∀ vs, oa.data ≠ .fields vs) (k : ∀ b o, b ≠ a → h.get? b = some o → h'.get? b = some o) : TabOk h' := by
  obtain ⟨ps, h1, h2, h3, h4⟩ := x
  have h149 : (149 : Addr) ≠ a := fun e => by rw [← e, h1] at ha; cases ha; exact hn _ rfl
  refine ⟨ps, k _ _ h149 h1, h2, h3.imp id ?_, h4.imp id ?_⟩ <;> exact fun ⟨c, e, b⟩ => ⟨c, e, b.keepsBut k ha hn⟩
theorem Grow.of {h h' : Heap} (k : ∀ b o, h.get? b = some o → h'.get? b = some o) : Grow b0 h h' := ⟨fun b o _ e => .inl (k b o e), fun t => t.keeps k⟩
theorem Wd.grow {w : World} {h h' : Heap} (W : Wd b0 w h) (k : Grow b0 h h') : Wd b0 w h' := by
  obtain ⟨g, p, loose, mean, mg, mb, s, B⟩ := W.ex
  exact ⟨⟨g, p, loose, mean, mg, mb, fun b o e => (k.1 b o (fun q => by (first | exact none2 q B.no e | obtain rfl := one2 q B.no e | (rw [q, B.no] at e; cases e))) (s b o e)).lo (Nat.lt_of_lt_of_le (Heap.lt_size e) B.size), B⟩, k.2 W.tab⟩
def Ext (b0 : Nat) (s s' : Shared) : Prop := ∃ h' tk, s' = { s with heap := h', toks := tk } ∧ Grow b0 s.heap h'
theorem Ext.refl (s : Shared) : Ext b0 s s := ⟨s.heap, s.toks, rfl, .refl _⟩
theorem Ext.tok (s : Shared) (t : Nat) : Ext b0 s { s with toks := t } := ⟨s.heap, t, rfl, .refl _⟩
theorem Ext.trans {s s' s'' : Shared} (x : Ext b0 s s') (y : Ext b0 s' s'') : Ext b0 s s'' := by
  obtain ⟨h, t, rfl, g⟩ := x
  obtain ⟨h', t', rfl, g'⟩ := y
  exact ⟨h', t', rfl, g.trans g'⟩
theorem Ext.grow {s s' : Shared} (x : Ext b0 s s') : Grow b0 s.heap s'.heap := by obtain ⟨h, t, rfl, g⟩ := x; exact g
theorem Ext.of {s : Shared} {h' : Heap} {tk : Nat} (k : ∀ b o, s.heap.get? b = some o → h'.get? b = some o) : Ext b0 s { s with heap := h', toks := tk } := ⟨h', tk, rfl, .of k⟩
theorem vw_sub {T : List Addr} {h h' : Heap} (t : TabOk h) (k : Grow b0 h h') : Sub (vw T h) (vw T h') := by
  intro a o e _ hd
  unfold vw at e ⊢
  split at e
  · cases e
  · rename_i hm
    rw [if_neg hm]
    obtain ⟨vs, n, hd⟩ := hd
    refine (k.1 a o (fun q => ?_) e).nd fun es ep q => by (first | exact clash hd q | exact none1 hd q | obtain rfl := one1 hd q | (rw [hd] at q; cases q))
    subst q
    obtain ⟨ps, h1, _⟩ := t
    rw [h1] at e
    cases e; cases hd
theorem vw_le {T : List Addr} {h : Heap} : Sub (vw T h) h.get? := by
  intro a o e _ _
  unfold vw at e
  split at e
  · cases e
  · exact e
theorem vw_nil (h : Heap) : vw [] h = h.get? := by funext a; simp [vw]
/-- fewer hidden -/
theorem vw_less {T T' : List Addr} {h : Heap} (s : ∀ a ∈ T', a ∈ T) : Sub (vw T h) (vw T' h) := by
  intro a o e _ _
  unfold vw at e ⊢
  split at e
  · cases e
  · rename_i hm
    rw [if_neg fun q => hm (s a q)]; exact e
/-- one object changed that is no list and no tuple, or is hidden -/
theorem vw_but {T : List Addr} {h h' : Heap} {a : Addr} {o : Obj} (k : ∀ b o, b ≠ a → h.get? b = some o → h'.get? b = some o) (ha : h.get? a = some o) (hn : a ∈ T ∨ ∀ vs n, o.data ≠ .seq vs n) : Sub (vw T h) (vw T h') := by
  intro b ob e _ hd
  unfold vw at e ⊢
  split at e
  · cases e
  · rename_i hm
    rw [if_neg hm]
    refine k b ob (fun q => ?_) e
    subst q
    rcases hn with hn | hn
    · exact hm hn
    · obtain ⟨vs, n, hd⟩ := hd
      (first | exact clash ha e | exact none1 ha e | obtain rfl := one1 ha e | (rw [ha] at e; cases e))
      exact hn vs n hd
/-- one more hidden that was not there -/
theorem vw_more {T : List Addr} {h h' : Heap} {a : Addr} (ha : h.get? a = none) (k : Sub (vw T h) (vw T h')) : Sub (vw T h) (vw (a :: T) h') := by
  intro b ob e hc hd
  have e' := k b ob e hc hd
  unfold vw at e e' ⊢
  split at e
  · cases e
  · rename_i hm
    rw [if_neg hm] at e'
    rw [if_neg]
    · exact e'
    · intro q
      rcases List.mem_cons.mp q with rfl | q
      · (first | exact clash ha e | exact none1 ha e | obtain rfl := one1 ha e | (rw [ha] at e; cases e))
      · exact hm q

inductive Var (env : Env) (h : Heap) (m : Str → Option Value) (x : Str) (v : Value) : Prop
  | loc : env.kindOf x = some .local → m x = some v → Var env h m x v
  | cell (c : Addr) : env.kindOf x = some .cell → env.cells.lookup x = some c → h.IsCell c (some v) → Var env h m x v
  | free (c : Addr) : env.kindOf x = some .free → env.cells.lookup x = some c → h.IsCell c (some v) → Var env h m x v

theorem not149_of_cell {h : Heap} {c : Addr} {v : Option Value} (t : TabOk h) (x : h.IsCell c v) : c ≠ 149 := by
  rintro rfl
  obtain ⟨o, ho, hd⟩ := x
  obtain ⟨ps, h1, _⟩ := t
  (first | exact clash h1 ho | exact none1 h1 ho | obtain rfl := one1 h1 ho | (rw [h1] at ho; cases ho)); cases hd
theorem IsCell_grow {h h' : Heap} {c : Addr} {v : Option Value} (t : TabOk h) (k : Grow b0 h h') (x : h.IsCell c v) : h'.IsCell c v :=
  have n := not149_of_cell t x
  let ⟨o, ho, hd⟩ := x; ⟨o, (k.1 _ _ n ho).nd (fun es ep q => by (first | exact clash hd q | exact none1 hd q | obtain rfl := one1 hd q | (rw [hd] at q; cases q))), hd⟩
theorem Ns_grow {h h' : Heap} {a : Addr} {m : Str → Option Value} (t : TabOk h) (k : Grow b0 h h') (x : h.Ns a m) : h'.Ns a m := by
  obtain ⟨o, es, ep, ho, hd, r⟩ := x
  have n : a ≠ 149 := by
    rintro rfl
    obtain ⟨ps, h1, _⟩ := t
    (first | exact clash h1 ho | exact none1 h1 ho | obtain rfl := one1 h1 ho | (rw [h1] at ho; cases ho)); cases hd
  rcases k.1 _ _ n ho with e | ⟨_, _, _, sl, _, e⟩
  · exact ⟨o, es, ep, e, hd, r⟩
  · exact ⟨_, es, ep, e, hd, r⟩
theorem PlainL_grow {h h' : Heap} {a : Addr} {vs : Array Value} (t : TabOk h) (k : Grow b0 h h') (x : PlainL h a vs) : PlainL h' a vs := by
  obtain ⟨o, n, ho, hc, hd0, hd⟩ := x
  refine ⟨o, n, (k.1 _ _ ?_ ho).nd (fun es ep q => by (first | exact clash hd q | exact none1 hd q | obtain rfl := one1 hd q | (rw [hd] at q; cases q))), hc, hd0, hd⟩
  rintro rfl
  obtain ⟨ps, h1, _⟩ := t
  (first | exact clash h1 ho | exact none1 h1 ho | obtain rfl := one1 h1 ho | (rw [h1] at ho; cases ho)); cases hd
theorem Var.grow {env : Env} {h h' : Heap} {m : Str → Option Value} {x : Str} {v : Value} (t : TabOk h) (k : Grow b0 h h') (X : Var env h m x v) : Var env h' m x v := by
  cases X with
  | loc a b => exact .loc a b
  | cell c a b d => exact .cell c a b (IsCell_grow t k d)
  | free c a b d => exact .free c a b (IsCell_grow t k d)

structure EnvOk (env : Env) : Prop where
  kind : env.scope.kind = .function
  globals : env.globals = mainGlobals
  builtins : env.builtins = builtinsNs
  apart : ∀ x y c, env.locals < c → env.cells.lookup x = some c → env.cells.lookup y = some c → x = y

/-- an abstract state of a frame: the heap at its entry, what its caller hides, the hidden addresses, what its names hold, its own list under change -/
structure St where
  h₀ : Heap
  T₀ : List Addr
  T : List Addr
  σ : List (Str × D)
  own : Option (Str × Addr × List D)

structure FS (b0 : Nat) (w : World) (env : Env) (S : St) (h : Heap) : Prop where
  wd₀ : Wd b0 w S.h₀
  tab : TabOk h
  keep : ∀ b o, b ≠ 149 → S.h₀.get? b = some o → Up b0 h b o
  hid : ∀ a ∈ S.T, ∃ o, h.get? a = some o
  sub : ∀ a ∈ S.T₀, a ∈ S.T
  loc : S.h₀.get? env.locals = none
  cells : ∀ x c, env.cells.lookup x = some c → (∃ v, h.IsCell c v) ∧ (env.kindOf x = some .cell → env.locals < c → S.h₀.get? c = none)
  frame : ∃ m, h.Ns env.locals m ∧ (∀ x d, S.σ.lookup x = some d → ∃ v, Var env h m x v ∧ DAt (vw S.T h) v d) ∧
    ∀ x a ds, S.own = some (x, a, ds) → Var env h m x (.ref a) ∧ a ∈ S.T ∧ S.h₀.get? a = none ∧ ∃ vs, PlainL h a vs ∧ DAll (vw S.T h) vs.toList ds

theorem FS.grown {w : World} {env : Env} {S : St} {h : Heap} (F : FS b0 w env S h) : Grow b0 S.h₀ h := ⟨F.keep, fun _ => F.tab⟩
theorem FS.wd {w : World} {env : Env} {S : St} {h : Heap} (F : FS b0 w env S h) : Wd b0 w h := F.wd₀.grow F.grown

theorem FS.grow {w : World} {env : Env} {S : St} {h h' : Heap} (F : FS b0 w env S h) (k : Grow b0 h h') : FS b0 w env S h' where
  wd₀ := F.wd₀
  tab := k.2 F.tab
  keep := fun b o n e => (F.keep b o n e).next fun o' e' => k.1 b o' n e'
  hid := fun a ha => by
    obtain ⟨o, e⟩ := F.hid a ha
    by_cases q : a = 149
    · subst q
      obtain ⟨ps, h1, _⟩ := k.2 F.tab
      exact ⟨_, h1⟩
    · exact (k.1 a o q e).there
  sub := F.sub
  loc := F.loc
  cells := fun x c h1 => let ⟨⟨v, b⟩, a⟩ := F.cells x c h1; ⟨⟨v, IsCell_grow F.tab k b⟩, a⟩
  frame := by
    obtain ⟨m, h1, h2, h3⟩ := F.frame
    refine ⟨m, Ns_grow F.tab k h1, fun x d e => ?_, fun x a ds e => ?_⟩
    · obtain ⟨v, X, A⟩ := h2 x d e
      exact ⟨v, X.grow F.tab k, A.mono (vw_sub F.tab k)⟩
    · obtain ⟨X, a1, a2, vs, a3, a4⟩ := h3 x a ds e
      exact ⟨X.grow F.tab k, a1, a2, vs, PlainL_grow F.tab k a3, a4.mono (vw_sub F.tab k)⟩
theorem FS.ext {w : World} {env : Env} {S : St} {s s' : Shared} (F : FS b0 w env S s.heap) (k : Ext b0 s s') : FS b0 w env S s'.heap := F.grow k.grow

structure Cx where
  prog : Program
  w : World
  A : Around
  env : Env

abbrev NoE : Value → Shared → Prop := fun _ _ => False
/-- an expression gives the data -/
structure Ev (b0 : Nat) (c : Cx) (S : St) (e : Expr) (d : D) : Prop where
  go : ∀ s, FS b0 c.w c.env S s.heap → wpAny (model c.prog c.w) c.A (eval e c.env) (fun v s' => Ext b0 s s' ∧ DAt (vw S.T s'.heap) v d) NoE s
/-- a test comes out so -/
structure Tst (b0 : Nat) (c : Cx) (S : St) (e : Expr) (b : Bool) : Prop where
  go : ∀ s, FS b0 c.w c.env S s.heap → wpAny (model c.prog c.w) c.A (isTrue e c.env (eval e c.env)) (fun r s' => Ext b0 s s' ∧ r = b) NoE s

section
variable {c : Cx} {S : St}

theorem Ev.use {e : Expr} {d : D} (h : Ev b0 c S e d) {s : Shared} {Q : Value → Shared → Prop} {E : Value → Shared → Prop} (F : FS b0 c.w c.env S s.heap)
    (k : ∀ v s', Ext b0 s s' → FS b0 c.w c.env S s'.heap → DAt (vw S.T s'.heap) v d → Q v s') : wpAny (model c.prog c.w) c.A (eval e c.env) Q E s :=
  wpAny_mono (h.go s F) (fun v s' q => k v s' q.1 (F.ext q.1) q.2) fun _ _ x => x.elim
theorem Tst.use {e : Expr} {b : Bool} (h : Tst b0 c S e b) {s : Shared} {Q : Bool → Shared → Prop} {E : Value → Shared → Prop} (F : FS b0 c.w c.env S s.heap)
    (k : ∀ s', Ext b0 s s' → FS b0 c.w c.env S s'.heap → Q b s') : wpAny (model c.prog c.w) c.A (isTrue e c.env (eval e c.env)) Q E s :=
  wpAny_mono (h.go s F) (fun v s' q => by obtain ⟨q1, rfl⟩ := q; exact k s' q1 (F.ext q1)) fun _ _ x => x.elim

theorem ev_int {i : Int} {k : Nat} {pos : Pos} : Ev b0 c S (.Constant (.int i) k pos) (.int i) := ⟨fun s _ => wpAny_Constant_int ⟨.tok _ _, .int _ _⟩⟩
theorem ev_str {x : Str} {k : Nat} {pos : Pos} : Ev b0 c S (.Constant (.str x) k pos) (.str x) := ⟨fun s _ => wpAny_Constant_str ⟨.tok _ _, .str _ _⟩⟩
theorem ev_none {k : Nat} {pos : Pos} : Ev b0 c S (.Constant .none k pos) .none := ⟨fun s _ => wpAny_Constant_none ⟨.refl _, .none⟩⟩
theorem ev_bool {b : Bool} {k : Nat} {pos : Pos} : Ev b0 c S (.Constant (.bool b) k pos) (.bool b) := ⟨fun s _ => wpAny_Constant_bool ⟨.refl _, .bool _⟩⟩
theorem ev_bytes {x : List UInt8} {k : Nat} {pos : Pos} : Ev b0 c S (.Constant (.bytes x) k pos) (.bytes x.toArray) := ⟨fun s _ => Constant_bytes ⟨.tok _ _, .bytes _ _⟩⟩

theorem ev_name (H : EnvOk c.env) {x : Str} {pos : Pos} {d : D} (h : S.σ.lookup x = some d) (hd : (x == ("__debug__" : Str)) = false := by decide) (hn : (x == ("__classdict__" : Str)) = false := by decide) : Ev b0 c S (.Name x pos) d := ⟨fun s F => by
  obtain ⟨m, h1, h2, _⟩ := F.frame
  obtain ⟨v, X, A⟩ := h2 x d h
  refine wpAny_Name ?_ hd
  cases X with
  | loc a b => exact wpAny_loadName_local H.kind a h1 b ⟨.refl _, A⟩
  | cell c a b e => exact wpAny_loadName_cell H.kind a b e ⟨.refl _, A⟩
  | free c a b e => exact wpAny_loadName_free H.kind a b e ⟨.refl _, A⟩ hn⟩

/-- a binary operation on data -/
structure Bin (b0 : Nat) (c : Cx) (T : List Addr) (op : Operator) (a b r : D) : Prop where
  go : ∀ s u v, Wd b0 c.w s.heap → (∀ x ∈ T, ∃ o, s.heap.get? x = some o) → DAt (vw T s.heap) u a → DAt (vw T s.heap) v b → wpAny (model c.prog c.w) c.A (binaryOp op u v) (fun x s' => Ext b0 s s' ∧ DAt (vw T s'.heap) x r) NoE s
theorem ev_bin {l r : Expr} {op : Operator} {pos : Pos} {a b x : D} (hl : Ev b0 c S l a) (hr : Ev b0 c S r b) (h : Bin b0 c S.T op a b x) : Ev b0 c S (.BinOp l op r pos) x := ⟨fun s F =>
  wpAny_BinOp (hl.use F fun u s₁ e₁ F₁ A₁ => hr.use F₁ fun v s₂ e₂ F₂ A₂ => wpAny_mono (h.go s₂ u v F₂.wd F₂.hid (A₁.mono (vw_sub F₁.tab e₂.grow)) A₂) (fun _ _ q => ⟨(e₁.trans e₂).trans q.1, q.2⟩) fun _ _ z => z)⟩
end
end Mine
/- part B2 -/
namespace Mine
open PySem PySem.W PySem.Calls PyProof.Rows
variable {b0 : Nat}

/-- room for k calls more -/
structure Room (k : Nat) (A : Around) : Prop where
  handled : A.handled = none
  depth : A.depth + k ≤ 900
  units : A.units + 20 * k ≤ 9000
theorem Room.mono {k j : Nat} {A : Around} (R : Room k A) (h : j ≤ k) : Room j A := ⟨R.handled, by have := R.depth; omega, by have := R.units; omega⟩
theorem Room.deeper {k : Nat} {A : Around} {env : Env} (R : Room (k + 1) A) : Room k (A.deeper env) :=
  ⟨R.handled, by show A.depth + 1 + k ≤ 900; have := R.depth; omega, by show A.units + 3 + 20 * k ≤ 9000; have := R.units; omega⟩
theorem Room.in1 {k : Nat} {A : Around} (R : Room (k + 1) A) : Room k A.in1 :=
  ⟨R.handled, by show A.depth + k ≤ 900; have := R.depth; omega, by show A.units + 1 + 20 * k ≤ 9000; have := R.units; omega⟩
theorem Room.room {k : Nat} {A : Around} (R : Room k A) : A.depth < recursionLimit := by have := R.depth; show A.depth < 1000; omega
theorem Room.line {k : Nat} {A : Around} (R : Room k A) : A.units < cLine := by have := R.units; show A.units < 9900; omega

section
variable {c : Cx} {S : St} {T : List Addr}

theorem bin_add {a b : Int} : Bin b0 c T .Add (.int a) (.int b) (.int (a + b)) := ⟨fun s u v _ _ hu hv => by cases hu; cases hv; with_reducible exact PyProof.Rows.add_int ⟨.tok _ _, .int _ _⟩⟩
theorem bin_sub {a b : Int} : Bin b0 c T .Sub (.int a) (.int b) (.int (a - b)) := ⟨fun s u v _ _ hu hv => by cases hu; cases hv; with_reducible exact PyProof.Rows.sub_int ⟨.tok _ _, .int _ _⟩⟩
theorem bin_mul {a b : Int} (h : -(2 ^ 64) < b ∧ b < 2 ^ 64) : Bin b0 c T .Mult (.int a) (.int b) (.int (a * b)) := ⟨fun s u v _ _ hu hv => by
  cases hu; cases hv; with_reducible exact PyProof.Rows.mul_int ⟨.tok _ _, .int _ _⟩ (IntMulOk.of_right (intBits_le_64 h.1 h.2))⟩
theorem bin_div {a b : Int} (h : 0 < b ∧ b < 1073741824) : Bin b0 c T .FloorDiv (.int a) (.int b) (.int (a.fdiv b)) := ⟨fun s u v _ _ hu hv => by
  cases hu; cases hv; with_reducible exact PyProof.Rows.floordiv_int (by omega) ⟨.tok _ _, .int _ _⟩ (.inl (PyProof.noPylong_small (by omega)))⟩
theorem bin_mod {a b : Int} (h : b ≠ 0) : Bin b0 c T .Mod (.int a) (.int b) (.int (a.fmod b)) := ⟨fun s u v _ _ hu hv => by cases hu; cases hv; with_reducible exact PyProof.Rows.mod_int' h ⟨.tok _ _, .int _ _⟩⟩
theorem bin_pow {a b : Int} (h : 0 ≤ b ∧ b ≤ 1000000 ∧ a.natAbs < 2 ^ 64) : Bin b0 c T .Pow (.int a) (.int b) (.int (a ^ b.toNat)) := ⟨fun s u v _ _ hu hv => by cases hu; cases hv; with_reducible exact PyProof.Rows.pow_int_small h.1 h.2.1 h.2.2 ⟨.tok _ _, .int _ _⟩⟩
theorem bin_shl {a b : Int} (h : 0 ≤ b ∧ b ≤ 1000000 ∧ a.natAbs < 2 ^ 64) : Bin b0 c T .LShift (.int a) (.int b) (.int (a * 2 ^ b.toNat)) := ⟨fun s u v _ _ hu hv => by cases hu; cases hv; with_reducible exact PyProof.Rows.lshift_int_small h.1 h.2.1 h.2.2 ⟨.tok _ _, .int _ _⟩⟩
theorem bin_shr {a b : Int} (h : 0 ≤ b) : Bin b0 c T .RShift (.int a) (.int b) (.int (a.fdiv (2 ^ b.toNat))) := ⟨fun s u v _ _ hu hv => by cases hu; cases hv; with_reducible exact PyProof.Rows.rshift_int h ⟨.tok _ _, .int _ _⟩⟩
theorem bin_and {a b : Int} : Bin b0 c T .BitAnd (.int a) (.int b) (.int (Builtin.bitAnd a b)) := ⟨fun s u v _ _ hu hv => by cases hu; cases hv; with_reducible exact PyProof.Rows.and_int ⟨.tok _ _, .int _ _⟩⟩
theorem bin_or {a b : Int} : Bin b0 c T .BitOr (.int a) (.int b) (.int (Builtin.bitOr a b)) := ⟨fun s u v _ _ hu hv => by cases hu; cases hv; with_reducible exact PyProof.Rows.or_int ⟨.tok _ _, .int _ _⟩⟩
theorem bin_str {x y : Str} (h : x.length + y.length ≤ 16384) : Bin b0 c T .Add (.str x) (.str y) (.str (x ++ y)) := ⟨fun s u v _ _ hu hv => by
  cases hu; cases hv; with_reducible exact PyProof.Rows.add_str (fun t' tk => ⟨.tok _ _, .str _ _⟩) (Nat.le_trans h (by decide))⟩

theorem DAt.isList {g : Vw} {h : Heap} {v : Value} {ds : List D} (hs : Sub g h.get?) (A : DAt g v (.list ds)) : ∃ a vs, v = .ref a ∧ g a = h.get? a ∧ h.IsList a vs ∧ DAll g vs.toList ds := by
  cases A with
  | list e hc hd r => exact ⟨_, _, rfl, e.trans (hs _ _ e (.inl hc) ⟨_, _, hd⟩).symm, ⟨_, hs _ _ e (.inl hc) ⟨_, _, hd⟩, hc, _, hd⟩, r⟩
theorem DAt.isTup {g : Vw} {h : Heap} {v : Value} {ds : List D} (hs : Sub g h.get?) (A : DAt g v (.tup ds)) : ∃ a vs, v = .ref a ∧ g a = h.get? a ∧ h.IsTuple a vs ∧ DAll g vs.toList ds := by
  cases A with
  | tup e hc hd r => exact ⟨_, _, rfl, e.trans (hs _ _ e (.inr hc) ⟨_, _, hd⟩).symm, ⟨_, hs _ _ e (.inr hc) ⟨_, _, hd⟩, hc, _, hd⟩, r⟩

theorem Grow.push (h : Heap) (o : Obj) : Grow b0 h (h.push o) := .of fun b o' e => Heap.get?_push_of_some o e
theorem Ext.push {s : Shared} (o : Obj) {tk : Nat} : Ext b0 s { s with heap := s.heap.push o, toks := tk } := ⟨_, _, rfl, .push _ _⟩
theorem not_hid {T : List Addr} {h : Heap} (hT : ∀ x ∈ T, ∃ o, h.get? x = some o) {n : Nat} (hn : h.objs.size ≤ n) : n ∉ T := fun q => by
  obtain ⟨o, e⟩ := hT n q
  exact Nat.lt_irrefl _ (Nat.lt_of_lt_of_le (Heap.lt_size e) hn)
/-- a list that lies in a heap and is not hidden -/
theorem DAt.ofList {T : List Addr} {h : Heap} {a : Addr} {vs : Array Value} {ds : List D} (hl : h.IsList a vs) (ha : a ∉ T) (r : DAll (vw T h) vs.toList ds) : DAt (vw T h) (.ref a) (.list ds) := by
  obtain ⟨o, e, hc, n, hd⟩ := hl
  exact .list (by unfold vw; rw [if_neg ha]; exact e) hc hd r
theorem DAt.ofTup {T : List Addr} {h : Heap} {a : Addr} {vs : Array Value} {ds : List D} (hl : h.IsTuple a vs) (ha : a ∉ T) (r : DAll (vw T h) vs.toList ds) : DAt (vw T h) (.ref a) (.tup ds) := by
  obtain ⟨o, e, hc, n, hd⟩ := hl
  exact .tup (by unfold vw; rw [if_neg ha]; exact e) hc hd r
theorem DAt.pushList {T : List Addr} {h : Heap} {vs : Array Value} {ds : List D} (t : TabOk h) (hT : ∀ x ∈ T, ∃ o, h.get? x = some o) (r : DAll (vw T h) vs.toList ds) :
    DAt (vw T (h.push { cls := .type "list", data := .seq vs })) (.ref h.objs.size) (.list ds) :=
  .ofList ⟨_, Heap.get?_push_size _ rfl, rfl, 0, rfl⟩ (not_hid hT (Nat.le_refl _)) (r.mono (vw_sub (b0 := 0) t (.push _ _)))
theorem DAt.pushTup {T : List Addr} {h : Heap} {vs : Array Value} {ds : List D} (t : TabOk h) (hT : ∀ x ∈ T, ∃ o, h.get? x = some o) (r : DAll (vw T h) vs.toList ds) :
    DAt (vw T (h.push { cls := .type "tuple", data := .seq vs })) (.ref h.objs.size) (.tup ds) :=
  .ofTup ⟨_, Heap.get?_push_size _ rfl, rfl, 0, rfl⟩ (not_hid hT (Nat.le_refl _)) (r.mono (vw_sub (b0 := 0) t (.push _ _)))

theorem bin_list {ds es : List D} (hz : ds.length + es.length ≤ 16384) : Bin b0 c T .Add (.list ds) (.list es) (.list (ds ++ es)) := ⟨fun s u v W hT hu hv => by
  obtain ⟨a, vs, rfl, _, hl, r⟩ := hu.isList vw_le
  obtain ⟨b, ws, rfl, _, hb, q⟩ := hv.isList vw_le
  obtain ⟨⟨cls, dd, data, sl⟩, ho, hc, n, hd⟩ := id hl
  obtain ⟨⟨cls2, dd2, data2, sl2⟩, ho2, hc2, n2, hd2⟩ := id hb
  simp only at hc hd hc2 hd2
  subst hc hd hc2 hd2
  have l1 := r.length
  have l2 := q.length
  simp only [Array.length_toList] at l1 l2
  have hsz : vs.size + ws.size ≤ sizeLine := by have : (16384 : Nat) ≤ sizeLine := by decide
                                                omega
  refine concat_meets ⟨_, ho, rfl⟩ ⟨_, ho2, rfl⟩ noFill_list_add seq_list_add PySem.F.slot_list_add PySem.F.entry_list_add (PySem.F.args_list_add_2 _ _) (list_addW a b vs ws n n2 dd dd2 sl sl2 hsz) ⟨ho, ho2, ?_⟩
  refine ⟨Ext.push _, DAt.pushList W.tab hT ?_⟩
  rw [Array.toList_append]
  exact r.append q⟩
/-- displays -/
theorem wp_each {A : Around} {prog : Program} {w : World} {env : Env} {S : St} : ∀ {es : List Expr} {ds : List D} {pos : Pos}, (∀ (i : Nat) (e : Expr) (d : D), es[i]? = some e → ds[i]? = some d → Ev b0 ⟨prog, w, A, env⟩ S e d) → es.length = ds.length → (es.all fun e => !isStarred e) = true →
    ∀ s, FS b0 w env S s.heap → wpAny (model prog w) A (spliced (backTo pos (starEach es env))) (fun vs s' => Ext b0 s s' ∧ DAll (vw S.T s'.heap) vs ds) NoE s
  | [], [], _, _, _, _, s, F => args_nil ⟨.refl _, .nil⟩
  | e :: es, d :: ds, pos, h, hl, hs, s, F => by
    have hs' := hs
    rw [List.all_cons, Bool.and_eq_true] at hs'
    refine args_cons ((h 0 e d rfl rfl).use F fun v s₁ e₁ F₁ A₁ => ?_) (by cases e <;> first | rfl | cases hs'.1)
    exact wpAny_mono (wp_each (fun i e' d' x y => h (i + 1) e' d' x y) (by simpa using hl) hs'.2 s₁ F₁) (fun vs s₂ q => ⟨e₁.trans q.1, .cons (A₁.mono (vw_sub F₁.tab q.1.grow)) q.2⟩) fun _ _ x => x
  | [], _ :: _, _, _, hl, _, _, _ => by cases hl
  | _ :: _, [], _, _, hl, _, _, _ => by cases hl

inductive EvAll (b0 : Nat) (c : Cx) (S : St) : List Expr → List D → Prop
  | nil : EvAll b0 c S [] []
  | cons {e : Expr} {d : D} {es : List Expr} {ds : List D} : Ev b0 c S e d → EvAll b0 c S es ds → EvAll b0 c S (e :: es) (d :: ds)
theorem EvAll.get : ∀ {es : List Expr} {ds : List D}, EvAll b0 c S es ds → ∀ (i : Nat) (e : Expr) (d : D), es[i]? = some e → ds[i]? = some d → Ev b0 c S e d
  | _, _, .cons h r, 0, e, d, x, y => by simp at x y; subst x y; exact h
  | _, _, .cons h r, i + 1, e, d, x, y => by simp at x y; exact r.get i e d x y
theorem EvAll.len : ∀ {es : List Expr} {ds : List D}, EvAll b0 c S es ds → es.length = ds.length
  | _, _, .nil => rfl
  | _, _, .cons _ r => congrArg (· + 1) r.len
theorem EvAll.use {es : List Expr} {ds : List D} {pos : Pos} (h : EvAll b0 c S es ds) (hs : (es.all fun e => !isStarred e) = true) {s : Shared} (F : FS b0 c.w c.env S s.heap) {Q : List Value → Shared → Prop} {E : Value → Shared → Prop}
    (k : ∀ vs s', Ext b0 s s' → FS b0 c.w c.env S s'.heap → DAll (vw S.T s'.heap) vs ds → Q vs s') : wpAny (model c.prog c.w) c.A (spliced (backTo pos (starEach es c.env))) Q E s :=
  wpAny_mono (wp_each h.get h.len hs s F) (fun vs s' q => k vs s' q.1 (F.ext q.1) q.2) fun _ _ x => x.elim

theorem ev_list {es : List Expr} {ds : List D} {pos : Pos} (h : EvAll b0 c S es ds) (hs : (es.all fun e => !isStarred e) = true := by rfl) (hz : es.length ≤ 1000 := by decide) : Ev b0 c S (.List es pos) (.list ds) := ⟨fun s F =>
  List_ (h.use hs F fun vs s₁ e₁ F₁ A₁ => wpAny_newObj_type ⟨e₁.trans (.push _), DAt.pushList F₁.tab F₁.hid (by simpa using A₁)⟩
    (by show vs.toArray.size ≤ sizeLine; rw [List.size_toArray, A₁.length, ← h.len]; exact Nat.le_trans hz (by decide)))⟩
theorem ev_tup {es : List Expr} {ds : List D} {k : Nat} {pos : Pos} (h : EvAll b0 c S es ds) (hs : (es.all fun e => !isStarred e) = true := by rfl) (hz : es.length ≤ 1000 := by decide) : Ev b0 c S (.Tuple es k pos) (.tup ds) := ⟨fun s F =>
  Tuple_ (h.use hs F fun vs s₁ e₁ F₁ A₁ => wpAny_newObj_type ⟨e₁.trans (.push _), DAt.pushTup F₁.tab F₁.hid (by simpa using A₁)⟩
    (by show vs.toArray.size ≤ sizeLine; rw [List.size_toArray, A₁.length, ← h.len]; exact Nat.le_trans hz (by decide)))⟩
/-- comparisons -/
structure Cmp (b0 : Nat) (c : Cx) (T : List Addr) (op : CmpOp) (a b : D) (r : Bool) : Prop where
  go : ∀ s u v, Wd b0 c.w s.heap → (∀ x ∈ T, ∃ o, s.heap.get? x = some o) → DAt (vw T s.heap) u a → DAt (vw T s.heap) v b → wpAny (model c.prog c.w) c.A (compareOp op u v) (fun x s' => Ext b0 s s' ∧ x = .bool r) NoE s
theorem cmp_eq {a b : Int} : Cmp b0 c T .Eq (.int a) (.int b) (a == b) := ⟨fun s u v _ _ hu hv => by cases hu; cases hv; with_reducible exact PyProof.Rows.eq_int ⟨.refl _, rfl⟩⟩
theorem cmp_lt {a b : Int} : Cmp b0 c T .Lt (.int a) (.int b) (decide (a < b)) := ⟨fun s u v _ _ hu hv => by cases hu; cases hv; with_reducible exact PyProof.Rows.lt_int ⟨.refl _, rfl⟩⟩
theorem cmp_le {a b : Int} : Cmp b0 c T .LtE (.int a) (.int b) (decide (a ≤ b)) := ⟨fun s u v _ _ hu hv => by cases hu; cases hv; with_reducible exact PyProof.Rows.le_int ⟨.refl _, rfl⟩⟩
theorem cmp_gt {a b : Int} : Cmp b0 c T .Gt (.int a) (.int b) (decide (b < a)) := ⟨fun s u v _ _ hu hv => by cases hu; cases hv; with_reducible exact PyProof.Rows.gt_int ⟨.refl _, rfl⟩⟩
theorem cmp_ge {a b : Int} : Cmp b0 c T .GtE (.int a) (.int b) (decide (b ≤ a)) := ⟨fun s u v _ _ hu hv => by cases hu; cases hv; with_reducible exact PyProof.Rows.ge_int ⟨.refl _, rfl⟩⟩

theorem ev_cmp {l r : Expr} {op : CmpOp} {pos : Pos} {a b : D} {x : Bool} (hl : Ev b0 c S l a) (hr : Ev b0 c S r b) (h : Cmp b0 c S.T op a b x) (hm : behindInMarks op r = false := by with_unfolding_all rfl) : Ev b0 c S (.Compare l [op] [r] pos) (.bool x) := ⟨fun s F =>
  wpAny_Compare1 (hl.use F fun u s₁ e₁ F₁ A₁ => hr.use F₁ fun v s₂ e₂ F₂ A₂ => wpAny_mono (h.go s₂ u v F₂.wd F₂.hid (A₁.mono (vw_sub F₁.tab e₂.grow)) A₂) (fun _ _ q => by obtain ⟨q1, rfl⟩ := q; exact ⟨(e₁.trans e₂).trans q1, .bool _⟩) fun _ _ z => z) hm⟩
theorem tst_cmp {l r : Expr} {op : CmpOp} {pos : Pos} {a b : D} {x : Bool} (hl : Ev b0 c S l a) (hr : Ev b0 c S r b) (h : Cmp b0 c S.T op a b x) (hm : behindInMarks op r = false := by with_unfolding_all rfl) : Tst b0 c S (.Compare l [op] [r] pos) x := ⟨fun s F =>
  wpAny_isTrue_Compare1 (hl.use F fun u s₁ e₁ F₁ A₁ => hr.use F₁ fun v s₂ e₂ F₂ A₂ => wpAny_mono (h.go s₂ u v F₂.wd F₂.hid (A₁.mono (vw_sub F₁.tab e₂.grow)) A₂) (fun _ _ q => by obtain ⟨q1, rfl⟩ := q; exact wpAny_truthy_bool ⟨(e₁.trans e₂).trans q1, rfl⟩) fun _ _ z => z) hm⟩
/-- truth -/
structure Tru (b0 : Nat) (c : Cx) (T : List Addr) (d : D) (r : Bool) : Prop where
  go : ∀ s u, DAt (vw T s.heap) u d → wpAny (model c.prog c.w) c.A (truthy u) (fun x s' => Ext b0 s s' ∧ x = r) NoE s
theorem tru_bool {b : Bool} : Tru b0 c T (.bool b) b := ⟨fun s u hu => by cases hu; with_reducible exact wpAny_truthy_bool ⟨.refl _, rfl⟩⟩
theorem tru_int {i : Int} : Tru b0 c T (.int i) (i != 0) := ⟨fun s u hu => by cases hu; with_reducible exact PyProof.Rows.truthy_int ⟨.refl _, rfl⟩⟩
theorem tru_bytes {b : Array UInt8} (hz : b.size ≤ 1099511627776) : Tru b0 c T (.bytes b) ((b.size : Int) != 0) := ⟨fun s u hu => by cases hu; with_reducible exact truthy_bytes hz ⟨.tok _ _, rfl⟩⟩
theorem tst_val {e : Expr} {d : D} {r : Bool} (h : Ev b0 c S e d) (ht : Tru b0 c S.T d r) (he : isTrue e c.env (eval e c.env) = (do let v ← eval e c.env; standAt e.pos; holding [v] (truthy v)) := by rfl) : Tst b0 c S e r := ⟨fun s F =>
  isTrue_plain (h.use F fun v s₁ e₁ F₁ A₁ => wpAny_mono (ht.go s₁ v A₁) (fun _ _ q => ⟨e₁.trans q.1, q.2⟩) fun _ _ z => z) he⟩
theorem tst_not {e : Expr} {pos : Pos} {b : Bool} (h : Tst b0 c S e b) : Tst b0 c S (.UnaryOp .Not e pos) (!b) := ⟨fun s F => isTrue_not (h.use F fun s₁ e₁ F₁ => ⟨e₁, rfl⟩)⟩
theorem tst_and {x y : Expr} {pos : Pos} {a b : Bool} (hx : Tst b0 c S x a) (hy : a = true → Tst b0 c S y b) : Tst b0 c S (.BoolOp .And [x, y] pos) (a && b) := ⟨fun s F =>
  isTrue_and (hx.use F fun s₁ e₁ F₁ => by
    cases a with
    | false => exact ⟨e₁, rfl⟩
    | true => exact isTrue_and ((hy rfl).use F₁ fun s₂ e₂ F₂ => by
        cases b with
        | false => exact ⟨e₁.trans e₂, rfl⟩
        | true => exact isTrue_and_nil ⟨e₁.trans e₂, rfl⟩))⟩
theorem tst_or {x y : Expr} {pos : Pos} {a b : Bool} (hx : Tst b0 c S x a) (hy : a = false → Tst b0 c S y b) : Tst b0 c S (.BoolOp .Or [x, y] pos) (a || b) := ⟨fun s F =>
  isTrue_or (hx.use F fun s₁ e₁ F₁ => by
    cases a with
    | true => exact ⟨e₁, rfl⟩
    | false => exact isTrue_or ((hy rfl).use F₁ fun s₂ e₂ F₂ => by
        cases b with
        | true => exact ⟨e₁.trans e₂, rfl⟩
        | false => exact isTrue_or_nil ⟨e₁.trans e₂, rfl⟩))⟩
theorem ev_if {t b o : Expr} {pos : Pos} {r : Bool} {d : D} (ht : Tst b0 c S t r) (hb : r = true → Ev b0 c S b d) (ho : r = false → Ev b0 c S o d) : Ev b0 c S (.IfExp t b o pos) d := ⟨fun s F =>
  wpAny_IfExp (ht.use F fun s₁ e₁ F₁ => by
    cases r with
    | true => exact (hb rfl).use F₁ fun v s₂ e₂ F₂ A₂ => ⟨e₁.trans e₂, A₂⟩
    | false => exact (ho rfl).use F₁ fun v s₂ e₂ F₂ A₂ => ⟨e₁.trans e₂, A₂⟩)⟩
theorem ev_neg {e : Expr} {pos : Pos} {i : Int} (h : Ev b0 c S e (.int i)) : Ev b0 c S (.UnaryOp .USub e pos) (.int (-i)) := ⟨fun s F =>
  wpAny_UnaryOp (h.use F fun v s₁ e₁ F₁ A₁ => by cases A₁; exact PyProof.Rows.neg_int ⟨e₁.trans (.tok _ _), .int _ _⟩)⟩
end
end Mine
/- part B3 -/
namespace Mine
open PySem PySem.W PySem.Calls PyProof.Rows
variable {b0 : Nat}

theorem lk_here {α : Type} {x : Str} {d : α} {l : List (Str × α)} : ((x, d) :: l).lookup x = some d := by simp [List.lookup_cons]
theorem lk_there {α : Type} {x y : Str} {d e : α} {l : List (Str × α)} (hn : (x == y) = false) (h : l.lookup x = some d) : ((y, e) :: l).lookup x = some d := by rw [List.lookup_cons, hn]; exact h

/-- a global name -/
structure Gl (b0 : Nat) (w : World) (x : Str) (v : Value) : Prop where
  go : ∀ (M : Model) (A : Around) (env : Env) (pos : Pos) (s : Shared) (Q : Value → Shared → Prop) (E : Value → Shared → Prop), EnvOk env → env.kindOf x = some .globalImplicit → Wd b0 w s.heap → Q v s → wpAny M A (eval (.Name x pos) env) Q E s
theorem gl_own {w : World} {x : Str} {v : Value} (e : nsIn (frag w.params) mainGlobals x = some (some v)) (hd : (x == ("__debug__" : Str)) = false) : Gl b0 w x v := ⟨fun M A env pos s Q E H hk W h => by
  obtain ⟨g, p, loose, mean, mg, mb, st, B⟩ := W.ex
  exact Name_function_global H.kind hk (loadGlobal_global (H.globals ▸ B.T.g.keeps st) (mg_of B.K B.T.g e) h) hd⟩
theorem gl_blt {w : World} {x : Str} {v : Value} (e : nsIn (frag w.params) mainGlobals x = some none) (hv : bootBuiltins x = some v) (hn : (x == ("__name__" : Str)) = false) (hd : (x == ("__debug__" : Str)) = false) : Gl b0 w x v := ⟨fun M A env pos s Q E H hk W h => by
  obtain ⟨g, p, loose, mean, mg, mb, st, B⟩ := W.ex
  exact Name_function_global H.kind hk (loadGlobal_builtin (H.globals ▸ B.T.g.keeps st) (mg_none_of B.K B.T.g e) (H.builtins ▸ B.T.b.keeps st) ((B.T.builtins x (by simpa using hn)).trans hv) h) hd⟩

section
variable {w : World}
theorem g_read_uint1 : Gl b0 w "read_uint1" (.ref 28) := gl_own (by kernel_rfl) (by decide +kernel)
theorem g_read_string1 : Gl b0 w "read_string1" (.ref 35) := gl_own (by kernel_rfl) (by decide +kernel)
theorem g_read_bytes1 : Gl b0 w "read_bytes1" (.ref 42) := gl_own (by kernel_rfl) (by decide +kernel)
theorem g_bytes_types : Gl b0 w "bytes_types" (.ref 43) := gl_own (by kernel_rfl) (by decide +kernel)
theorem g_from_decode : Gl b0 w "_bytes_from_decode_data" (.ref 50) := gl_own (by kernel_rfl) (by decide +kernel)
theorem g_ascii_buffer : Gl b0 w "_ascii_buffer" (.ref 70) := gl_own (by kernel_rfl) (by decide +kernel)
theorem g_buffer : Gl b0 w "_buffer" (.ref 77) := gl_own (by kernel_rfl) (by decide +kernel)
theorem g_truth : Gl b0 w "_truth" (.ref 84) := gl_own (by kernel_rfl) (by decide +kernel)
theorem g_b64_value : Gl b0 w "_b64_value" (.ref 91) := gl_own (by kernel_rfl) (by decide +kernel)
theorem g_a2b : Gl b0 w "a2b_base64" (.ref 99) := gl_own (by kernel_rfl) (by decide +kernel)
theorem g_b2a : Gl b0 w "b2a_base64" (.ref 107) := gl_own (by kernel_rfl) (by decide +kernel)
theorem g_b64encode : Gl b0 w "b64encode" (.ref 115) := gl_own (by kernel_rfl) (by decide +kernel)
theorem g_b64decode : Gl b0 w "b64decode" (.ref 123) := gl_own (by kernel_rfl) (by decide +kernel)
theorem g_missing : Gl b0 w "_initial_missing" (.ref 124) := gl_own (by kernel_rfl) (by decide +kernel)
theorem g_reduce : Gl b0 w "reduce" (.ref 132) := gl_own (by kernel_rfl) (by decide +kernel)
theorem g_orders : Gl b0 w "_law_orders" (.ref 137) := gl_own (by kernel_rfl) (by decide +kernel)
theorem g_cells : Gl b0 w "_law_cells" (.ref 142) := gl_own (by kernel_rfl) (by decide +kernel)
theorem g_signs : Gl b0 w "_law_signs" (.ref 147) := gl_own (by kernel_rfl) (by decide +kernel)
theorem g_stream : Gl b0 w "_law_stream" (.ref 154) := gl_own (by kernel_rfl) (by decide +kernel)
theorem g_read : Gl b0 w "_law_read" (.ref 161) := gl_own (by kernel_rfl) (by decide +kernel)
theorem g_laid : Gl b0 w "_law_laid" (.ref 166) := gl_own (by kernel_rfl) (by decide +kernel)
theorem g_len : Gl b0 w "len" (.builtin "len") := gl_blt (by kernel_rfl) (by decide +kernel) (by decide +kernel) (by decide +kernel)
theorem g_abs : Gl b0 w "abs" (.builtin "abs") := gl_blt (by kernel_rfl) (by decide +kernel) (by decide +kernel) (by decide +kernel)
theorem g_ord : Gl b0 w "ord" (.builtin "ord") := gl_blt (by kernel_rfl) (by decide +kernel) (by decide +kernel) (by decide +kernel)
theorem g_sum : Gl b0 w "sum" (.builtin "sum") := gl_blt (by kernel_rfl) (by decide +kernel) (by decide +kernel) (by decide +kernel)
theorem g_max : Gl b0 w "max" (.builtin "max") := gl_blt (by kernel_rfl) (by decide +kernel) (by decide +kernel) (by decide +kernel)
theorem g_isinstance : Gl b0 w "isinstance" (.builtin "isinstance") := gl_blt (by kernel_rfl) (by decide +kernel) (by decide +kernel) (by decide +kernel)
theorem g_iter : Gl b0 w "iter" (.builtin "iter") := gl_blt (by kernel_rfl) (by decide +kernel) (by decide +kernel) (by decide +kernel)
theorem g_str : Gl b0 w "str" (.type "str") := gl_blt (by kernel_rfl) (by decide +kernel) (by decide +kernel) (by decide +kernel)
theorem g_int : Gl b0 w "int" (.type "int") := gl_blt (by kernel_rfl) (by decide +kernel) (by decide +kernel) (by decide +kernel)
theorem g_bytes : Gl b0 w "bytes" (.type "bytes") := gl_blt (by kernel_rfl) (by decide +kernel) (by decide +kernel) (by decide +kernel)
theorem g_bool : Gl b0 w "bool" (.type "bool") := gl_blt (by kernel_rfl) (by decide +kernel) (by decide +kernel) (by decide +kernel)
theorem g_list : Gl b0 w "list" (.type "list") := gl_blt (by kernel_rfl) (by decide +kernel) (by decide +kernel) (by decide +kernel)
theorem g_range : Gl b0 w "range" (.type "range") := gl_blt (by kernel_rfl) (by decide +kernel) (by decide +kernel) (by decide +kernel)
theorem g_type : Gl b0 w "type" (.type "type") := gl_blt (by kernel_rfl) (by decide +kernel) (by decide +kernel) (by decide +kernel)
theorem g_ValueError : Gl b0 w "ValueError" (.type "ValueError") := gl_blt (by kernel_rfl) (by decide +kernel) (by decide +kernel) (by decide +kernel)
end

end Mine
/- part B4 -/
namespace Mine
open PySem PySem.W PySem.Calls PyProof.Rows
variable {b0 : Nat}

def Same (s s' : Shared) : Prop := ∃ h tk, s' = { s with heap := h, toks := tk }
theorem Same.refl (s : Shared) : Same s s := ⟨s.heap, s.toks, rfl⟩
theorem Same.trans {s s' s'' : Shared} (x : Same s s') (y : Same s' s'') : Same s s'' := by
  obtain ⟨h, t, rfl⟩ := x; obtain ⟨h', t', rfl⟩ := y; exact ⟨h', t', rfl⟩
theorem Ext.same {s s' : Shared} (x : Ext b0 s s') : Same s s' := by obtain ⟨h, t, rfl, _⟩ := x; exact ⟨h, t, rfl⟩
theorem Same.ext {s s' : Shared} (x : Same s s') (g : Grow b0 s.heap s'.heap) : Ext b0 s s' := by obtain ⟨h, t, rfl⟩ := x; exact ⟨h, t, rfl, g⟩

def St.set (S : St) (x : Str) (d : D) : St := { S with σ := (x, d) :: S.σ }
def OwnNot (S : St) (x : Str) : Prop := ∀ y a ds, S.own = some (y, a, ds) → (y == x) = false

/-- a change of one object that is neither in the base nor in the entry's heap -/
theorem FS.wd_but {w : World} {env : Env} {S : St} {h h' : Heap} {a : Addr} {o : Obj} (F : FS b0 w env S h) (h0 : S.h₀.get? a = none) (ha : h.get? a = some o) (hn : ∀ vs, o.data ≠ .fields vs)
    (k : ∀ b o, b ≠ a → h.get? b = some o → h'.get? b = some o) : TabOk h' ∧ (∀ b o, b ≠ 149 → S.h₀.get? b = some o → Up b0 h' b o) :=
  ⟨F.tab.keepsBut ha hn k, fun b o n e => (F.keep b o n e).exact fun o' e' => k b o' (fun q => by (first | exact none2 q h0 e | obtain rfl := one2 q h0 e | (rw [q, h0] at e; cases e))) e'⟩

/-- what is stored: data, or the new own list -/
def StoreOk (S : St) (h : Heap) (x : Str) (v : Value) (σ' : List (Str × D)) (own' : Option (Str × Addr × List D)) : Prop :=
  (∀ y d, σ'.lookup y = some d → (y = x ∧ DAt (vw S.T h) v d) ∨ ((y == x) = false ∧ S.σ.lookup y = some d)) ∧
  ((own' = S.own ∧ OwnNot S x) ∨ ∃ a ds vs, own' = some (x, a, ds) ∧ v = .ref a ∧ a ∈ S.T ∧ S.h₀.get? a = none ∧ PlainL h a vs ∧ DAll (vw S.T h) vs.toList ds)

/-- what stays when a name is stored -/
def NotFrame (h h' : Heap) : Prop := ∀ b o, h.get? b = some o → (∀ es ep, o.data ≠ .dict es ep) → (∀ v, o.data ≠ .cell v) → h'.get? b = some o
theorem FS.store {prog : Program} {w : World} {A : Around} {env : Env} {S : St} {x : Str} {v : Value} {σ' : List (Str × D)} {own' : Option (Str × Addr × List D)} {s : Shared} (H : EnvOk env) (F : FS b0 w env S s.heap) (hv : StoreOk S s.heap x v σ' own')
    (hk : env.kindOf x = some .local ∨ (env.kindOf x = some .cell ∧ ∃ c, env.cells.lookup x = some c ∧ env.locals < c)) :
    wpAny (model prog w) A (storeName env x v) (fun _ s' => Same s s' ∧ FS b0 w env { S with σ := σ', own := own' } s'.heap ∧ NotFrame s.heap s'.heap ∧ (env.kindOf x = some .local → Heap.SameBut env.locals s.heap s'.heap)) NoE s := by
  obtain ⟨m, h1, h2, h3⟩ := F.frame
  have fin : ∀ (h' : Heap) (m' : Str → Option Value) (a : Addr) (o : Obj), s.heap.get? a = some o → S.h₀.get? a = none → (∀ vs, o.data ≠ .fields vs) → (∀ vs n, o.data ≠ .seq vs n) → Heap.SameBut a s.heap h' → (∃ o', h'.get? a = some o') →
      h'.Ns env.locals m' → Var env h' m' x v → (∀ y u, (y == x) = false → Var env s.heap m y u → Var env h' m' y u) → (∀ y c, env.cells.lookup y = some c → ∀ u, s.heap.IsCell c u → ∃ u', h'.IsCell c u') →
      FS b0 w env { S with σ := σ', own := own' } h' := by
    intro h' m' a o ea ea0 nf ns hs' hex hn' hx vr cr
    obtain ⟨t, k⟩ := F.wd_but ea0 ea nf hs'.extBut
    have vs' : Sub (vw S.T s.heap) (vw S.T h') := vw_but hs'.extBut ea (.inr ns)
    have lst : ∀ b us, PlainL s.heap b us → PlainL h' b us := fun b us hl => by
      obtain ⟨ob, n, e, c', d0, d'⟩ := hl
      exact ⟨ob, n, hs'.extBut b ob (fun q => by (first | exact none2 q ea e | obtain rfl := one2 q ea e | (rw [q, ea] at e; cases e)); exact ns _ _ d') e, c', d0, d'⟩
    exact {
      wd₀ := F.wd₀, tab := t, keep := k
      hid := fun b hb => by
        obtain ⟨ob, e⟩ := F.hid b hb
        by_cases q : b = a
        · subst q; exact hex
        · exact ⟨ob, hs'.extBut b ob q e⟩
      sub := F.sub, loc := F.loc
      cells := fun y c a => let ⟨⟨v, e⟩, z⟩ := F.cells y c a; ⟨cr y c a _ e, z⟩
      frame := ⟨m', hn', fun y d hy => by
          rcases hv.1 y d hy with ⟨rfl, hd⟩ | ⟨hyx, hy'⟩
          · exact ⟨v, hx, hd.mono vs'⟩
          · obtain ⟨u, V, B⟩ := h2 y d hy'
            exact ⟨u, vr y u hyx V, B.mono vs'⟩, fun y b ds hy => by
          rcases hv.2 with ⟨e, hno⟩ | ⟨b', ds', us, e, rfl, q1, q2, q3, q4⟩
          · change own' = _ at hy
            rw [e] at hy
            obtain ⟨V, a1, a2, us, a3, a4⟩ := h3 y b ds hy
            exact ⟨vr y _ (hno y b ds hy) V, a1, a2, us, lst _ _ a3, a4.mono vs'⟩
          · change own' = _ at hy
            (first | exact clash e hy | exact none1 e hy | obtain rfl := one1 e hy | (rw [e] at hy; cases hy))
            exact ⟨hx, q1, q2, us, lst _ _ q3, q4.mono vs'⟩⟩ }
  rcases hk with hk | ⟨hk, c, hc, hlt⟩
  · refine wpAny_storeName_local hk h1 (fun h' hn' hs' => ⟨⟨h', _, rfl⟩, ?_, fun b ob e nd _ => hs'.extBut b ob (fun q => by obtain ⟨oL, es, ep, eL, dL, _⟩ := h1; (first | exact none2 q eL e | obtain rfl := one2 q eL e | (rw [q, eL] at e; cases e)); exact nd _ _ dL) e, fun _ => hs'⟩) (by rw [H.kind]; rfl)
    obtain ⟨oL, es, ep, eL, dL, _⟩ := id h1
    have cl : ∀ c v, s.heap.IsCell c v → h'.IsCell c v := fun c v hc => hc.sameBut hs' (fun q => by
      obtain ⟨o, e, d⟩ := hc
      (first | exact none2 q eL e | obtain rfl := one2 q eL e | (rw [q, eL] at e; cases e)); (first | exact clash dL d | exact none1 dL d | obtain rfl := one1 dL d | (rw [dL] at d; cases d)))
    refine fin h' _ env.locals oL eL F.loc (fun vs q => by (first | exact clash dL q | exact none1 dL q | obtain rfl := one1 dL q | (rw [dL] at q; cases q))) (fun vs n q => by (first | exact clash dL q | exact none1 dL q | obtain rfl := one1 dL q | (rw [dL] at q; cases q))) hs' (by obtain ⟨o', _, _, e', _⟩ := hn'; exact ⟨o', e'⟩) hn' (.loc hk (by simp)) (fun y u hy V => ?_) fun y c a u e => ⟨u, cl _ _ e⟩
    have hy' : y ≠ x := by simpa using hy
    cases V with
    | loc a b => exact .loc a (by simp [hy', b])
    | cell c a b e => exact .cell c a b (cl _ _ e)
    | free c a b e => exact .free c a b (cl _ _ e)
  · obtain ⟨⟨v₀, hcv⟩, hc0⟩ := F.cells x c hc
    have hc0 := hc0 hk hlt
    refine wpAny_storeName_cell H.kind hk hc hcv fun h' hc' hs' => ⟨⟨h', _, rfl⟩, ?_, fun b ob e _ nc => hs'.extBut b ob (fun q => by obtain ⟨oc, ec, dc⟩ := hcv; (first | exact none2 q ec e | obtain rfl := one2 q ec e | (rw [q, ec] at e; cases e)); exact nc _ dc) e, fun z => by (first | exact clash hk z | exact none1 hk z | obtain rfl := one1 hk z | (rw [hk] at z; cases z))⟩
    obtain ⟨oc, ec, dc⟩ := id hcv
    have cl : ∀ c' v, c' ≠ c → s.heap.IsCell c' v → h'.IsCell c' v := fun c' v q hc => hc.sameBut hs' q
    have hcl : ∀ y c', env.cells.lookup y = some c' → (y == x) = false → c' ≠ c := fun y c' hy hyx q => by
      subst q
      have := H.apart y x _ hlt hy hc
      rw [this] at hyx; simp at hyx
    refine fin h' m c oc ec hc0 (fun vs q => by (first | exact clash dc q | exact none1 dc q | obtain rfl := one1 dc q | (rw [dc] at q; cases q))) (fun vs n q => by (first | exact clash dc q | exact none1 dc q | obtain rfl := one1 dc q | (rw [dc] at q; cases q))) hs' (by obtain ⟨o', e', _⟩ := hc'; exact ⟨o', e'⟩) (h1.sameBut hs' (fun q => by
        obtain ⟨o, es, ep, e, d', _⟩ := h1
        (first | exact none2 q ec e | obtain rfl := one2 q ec e | (rw [q, ec] at e; cases e)); (first | exact clash dc d' | exact none1 dc d' | obtain rfl := one1 dc d' | (rw [dc] at d'; cases d')))) (.cell c hk hc hc') (fun y u hy V => ?_) fun y c' a u e => ?_
    · cases V with
      | loc a b => exact .loc a b
      | cell c' a b e => exact .cell c' a b (cl _ _ (hcl y c' b hy) e)
      | free c' a b e => exact .free c' a b (cl _ _ (hcl y c' b hy) e)
    · by_cases q : c' = c
      · subst q; exact ⟨_, hc'⟩
      · exact ⟨u, cl _ _ q e⟩
theorem StoreOk.data {S : St} {h : Heap} {x : Str} {v : Value} {d : D} (hv : DAt (vw S.T h) v d) (ho : OwnNot S x) : StoreOk S h x v ((x, d) :: S.σ) S.own :=
  ⟨fun y e hy => by
    rw [List.lookup_cons] at hy
    cases hyx : y == x with
    | true => (first | exact clash hyx hy | exact none1 hyx hy | obtain rfl := one1 hyx hy | (rw [hyx] at hy; cases hy)); exact .inl ⟨by simpa using hyx, hv⟩
    | false => rw [hyx] at hy; exact .inr ⟨rfl, hy⟩, .inl ⟨rfl, ho⟩⟩
theorem lookup_filter {α : Type} {x y : Str} {d : α} : ∀ {l : List (Str × α)}, (l.filter fun q => q.1 != x).lookup y = some d → (y == x) = false ∧ l.lookup y = some d
  | [], h => by cases h
  | (z, e) :: l, h => by
    rw [List.filter_cons] at h
    by_cases hz : z = x
    · subst hz
      simp only [bne_self_eq_false, Bool.false_eq_true, if_false] at h
      obtain ⟨a, b⟩ := lookup_filter h
      exact ⟨a, by rw [List.lookup_cons, a]; exact b⟩
    · have : (z != x) = true := by simpa using hz
      rw [if_pos this, List.lookup_cons] at h
      rw [List.lookup_cons]
      cases hyz : y == z with
      | true =>
        rw [hyz] at h
        obtain rfl : y = z := by simpa using hyz
        exact ⟨by simpa using hz, h⟩
      | false => rw [hyz] at h; exact lookup_filter h

/-- how a run of statements ends -/
inductive Out where
  | next (S : St)
  | turn (S : St)
  | brk (S : St)
  | ret (d : D)
  | post (P : Value → Heap → Prop)
def Out.ok (b0 : Nat) (c : Cx) (S₀ : St) : Out → Flow → Heap → Prop
  | .next S, f, h => f = .next ∧ FS b0 c.w c.env S h
  | .turn S, f, h => (f = .next ∨ f = .cont) ∧ FS b0 c.w c.env S h
  | .brk S, f, h => f = .brk ∧ FS b0 c.w c.env S h
  | .ret d, f, h => ∃ v, f = .ret v ∧ Grow b0 S₀.h₀ h ∧ DAt (vw S₀.T₀ h) v d
  | .post P, f, h => ∃ v, f = .ret v ∧ Grow b0 S₀.h₀ h ∧ P v h
/-- blocks of statements, one after the other -/
def blocks (M : Model) (A : Around) (env : Env) : List (List Stmt) → (Flow → Shared → Prop) → (Value → Shared → Prop) → Shared → Prop
  | [], Q, _, s => Q .next s
  | ss :: ks, Q, E, s => wpAny M A (execs ss env) (fun f s' => match f with | .next => blocks M A env ks Q E s' | f => Q f s') E s
theorem blocks_mono {M : Model} {A : Around} {env : Env} : ∀ {ks : List (List Stmt)} {Q Q' : Flow → Shared → Prop} {E : Value → Shared → Prop} {s : Shared}, blocks M A env ks Q E s → (∀ f s, Q f s → Q' f s) → blocks M A env ks Q' E s
  | [], _, _, _, _, h, k => k _ _ h
  | ss :: ks, _, _, _, _, h, k => wpAny_mono h (fun f s' q => by
      cases f with
      | next => exact blocks_mono q k
      | brk => exact k _ _ q
      | cont => exact k _ _ q
      | ret v => exact k _ _ q) fun _ _ x => x
structure Run (b0 : Nat) (c : Cx) (S : St) (ss : List Stmt) (ks : List (List Stmt)) (o : Out) : Prop where
  go : ∀ s, FS b0 c.w c.env S s.heap → blocks (model c.prog c.w) c.A c.env (ss :: ks) (fun f s' => Same s s' ∧ o.ok b0 c S f s'.heap) NoE s

/-- the two states are of one frame -/
def Kin (S S' : St) : Prop := S'.h₀ = S.h₀ ∧ S'.T₀ = S.T₀
theorem Out.kin {c : Cx} {S S' : St} {o : Out} {f : Flow} {h : Heap} (k : Kin S S') (x : o.ok b0 c S' f h) : o.ok b0 c S f h := by
  cases o with
  | next => exact x
  | turn => exact x
  | brk => exact x
  | ret d => unfold Out.ok at x ⊢; rw [← k.1, ← k.2]; exact x
  | post P => unfold Out.ok at x ⊢; rw [← k.1]; exact x

section
variable {c : Cx} {S : St} {o : Out} {rest : List Stmt} {ks : List (List Stmt)}

theorem Run.use {ss : List Stmt} (h : Run b0 c S ss ks o) {S₀ : St} (k : Kin S₀ S) {s₀ s : Shared} (e : Same s₀ s) (F : FS b0 c.w c.env S s.heap) : blocks (model c.prog c.w) c.A c.env (ss :: ks) (fun f s' => Same s₀ s' ∧ o.ok b0 c S₀ f s'.heap) NoE s :=
  blocks_mono (h.go s F) fun f s' q => ⟨e.trans q.1, Out.kin k q.2⟩
theorem run_cons {st : Stmt} (h : ∀ s, FS b0 c.w c.env S s.heap → wpAny (model c.prog c.w) c.A (exec st c.env) (fun f s₁ => match f with
      | .next => Same s s₁ ∧ ∃ S', Kin S S' ∧ FS b0 c.w c.env S' s₁.heap ∧ Run b0 c S' rest ks o
      | f => Same s s₁ ∧ o.ok b0 c S f s₁.heap) NoE s) : Run b0 c S (st :: rest) ks o := ⟨fun s F =>
  wpAny_execs_cons (wpAny_mono (h s F) (fun f s₁ q => by
    cases f with
    | next => obtain ⟨q1, S', k, F', r⟩ := q; exact r.use k q1 F'
    | brk => exact q
    | cont => exact q
    | ret v => exact q) fun _ _ x => x)⟩

theorem run_pop {ss : List Stmt} (h : Run b0 c S ss ks o) : Run b0 c S [] (ss :: ks) o := ⟨fun s F => wpAny_execs_nil (h.go s F)⟩
def Le (S S' : St) : Prop := S'.h₀ = S.h₀ ∧ S'.T₀ = S.T₀ ∧ S'.T = S.T ∧ S'.own = S.own ∧ ∀ x d, S'.σ.lookup x = some d → S.σ.lookup x = some d
theorem FS.le {w : World} {env : Env} {S S' : St} {h : Heap} (F : FS b0 w env S h) (l : Le S S') : FS b0 w env S' h := by
  obtain ⟨a, T₀, T, σ, own⟩ := S
  obtain ⟨a', T₀', T', σ', own'⟩ := S'
  obtain ⟨l1, l2, l3, l4, l5⟩ := l
  simp only at l1 l2 l3 l4 l5
  subst l1 l2 l3 l4
  obtain ⟨m, h1, h2, h3⟩ := F.frame
  exact ⟨F.wd₀, F.tab, F.keep, F.hid, F.sub, F.loc, F.cells, m, h1, fun x d e => h2 x d (l5 x d e), h3⟩
theorem Le.kin {S S' : St} (l : Le S S') : Kin S S' := ⟨l.1, l.2.1⟩
theorem run_le {S' : St} {ss : List Stmt} (l : Le S S') (h : Run b0 c S' ss ks o) : Run b0 c S ss ks o := ⟨fun s F => h.use l.kin (.refl _) (F.le l)⟩
theorem run_turn {S' : St} (l : Le S S') : Run b0 c S [] [] (.turn S') := ⟨fun s F => wpAny_execs_nil ⟨.refl _, .inl rfl, F.le l⟩⟩
theorem run_cont {S' : St} {pos : Pos} (l : Le S S') : Run b0 c S (.Continue pos :: rest) ks (.turn S') := run_cons fun s F => wpAny_Continue ⟨.refl _, .inr rfl, F.le l⟩

theorem run_assign (H : EnvOk c.env) {x : Str} {p pos : Pos} {e : Expr} {d : D} (he : Ev b0 c S e d)
    (hk : c.env.kindOf x = some .local ∨ (c.env.kindOf x = some .cell ∧ ∃ a, c.env.cells.lookup x = some a ∧ c.env.locals < a)) (ho : OwnNot S x) (h : Run b0 c (S.set x d) rest ks o)
    (hs : swapsWith e (some (.Name x p)) pos.line c.env = pure false := by rfl) : Run b0 c S (.Assign [.Name x p] e pos :: rest) ks o := run_cons fun s F =>
  wpAny_Assign_Name (he.use F fun v s₁ e₁ F₁ A₁ => wpAny_mono (F₁.store H (.data A₁ ho) hk) (fun _ s₂ q => ⟨e₁.same.trans q.1, S.set x d, ⟨rfl, rfl⟩, q.2.1, h⟩) fun _ _ x => x) hs

theorem run_ret {e : Expr} {pos : Pos} {d : D} (he : Ev b0 c S e d) : Run b0 c S (.Return (some e) pos :: rest) ks (.ret d) := run_cons fun s F =>
  wpAny_Return_some (he.use F fun v s₁ e₁ F₁ A₁ => ⟨e₁.same, v, rfl, F₁.grown, A₁.mono (vw_less F₁.sub)⟩)

/-- a fresh object is hidden -/
theorem FS.hide {w : World} {env : Env} {S : St} {h h' : Heap} {a : Addr} (F : FS b0 w env S h) (k : Grow b0 h h') (ha : h.get? a = none) (ha' : ∃ o, h'.get? a = some o) : FS b0 w env { S with T := a :: S.T } h' := by
  have F' := F.grow k
  obtain ⟨m, h1, h2, h3⟩ := F.frame
  refine ⟨F'.wd₀, F'.tab, F'.keep, fun b hb => ?_, fun b hb => List.mem_cons_of_mem _ (F.sub b hb), F'.loc, F'.cells, m, Ns_grow F.tab k h1, fun x d e => ?_, fun x b ds e => ?_⟩
  · rcases List.mem_cons.mp hb with rfl | hb
    · exact ha'
    · exact F'.hid b hb
  · obtain ⟨v, X, A⟩ := h2 x d e
    exact ⟨v, X.grow F.tab k, A.mono (vw_more ha (vw_sub F.tab k))⟩
  · obtain ⟨X, a1, a2, vs, a3, a4⟩ := h3 x b ds e
    exact ⟨X.grow F.tab k, List.mem_cons_of_mem _ a1, a2, vs, PlainL_grow F.tab k a3, a4.mono (vw_more ha (vw_sub F.tab k))⟩

/-- the own list is made -/
theorem run_own (H : EnvOk c.env) {x : Str} {p pos : Pos} {es : List Expr} {lp : Pos} {ds : List D} (hw : S.own = none) (he : EvAll b0 c S es ds)
    (hk : c.env.kindOf x = some .local ∨ (c.env.kindOf x = some .cell ∧ ∃ a, c.env.cells.lookup x = some a ∧ c.env.locals < a)) (h : ∀ a, a ∉ S.T → Run b0 c { S with T := a :: S.T, own := some (x, a, ds), σ := S.σ.filter fun q => q.1 != x } rest ks o)
    (hs : (es.all fun e => !isStarred e) = true := by rfl) (hz : es.length ≤ 1000 := by decide) :
    Run b0 c S (.Assign [.Name x p] (.List es lp) pos :: rest) ks o := run_cons fun s F =>
  wpAny_Assign_Name (List_ (he.use hs F fun vs s₁ e₁ F₁ A₁ => wpAny_newObj_type (by
    have hno : s₁.heap.get? s₁.heap.objs.size = none := Heap.get?_none_of_le (Nat.le_refl _)
    have F₂ := F₁.hide (Grow.push _ { cls := .type "list", data := .seq vs.toArray }) hno ⟨_, Heap.get?_push_size _ rfl⟩
    have h0 : S.h₀.get? s₁.heap.objs.size = none := by
      cases q : S.h₀.get? s₁.heap.objs.size with
      | none => rfl
      | some o' =>
        by_cases q' : s₁.heap.objs.size = 149
        · obtain ⟨ps, e, _⟩ := F₁.tab
          rw [q'] at hno; (first | exact clash hno e | exact none1 hno e | obtain rfl := one1 hno e | (rw [hno] at e; cases e))
        · obtain ⟨_, e⟩ := (F₁.keep _ _ q' q).there
          (first | exact clash e hno | exact none1 e hno | obtain rfl := one1 e hno | (rw [e] at hno; cases hno))
    refine wpAny_mono (FS.store (s := { s₁ with heap := s₁.heap.push { cls := .type "list", data := .seq vs.toArray } }) (σ' := S.σ.filter fun q => q.1 != x) (own' := some (x, s₁.heap.objs.size, ds)) H F₂ ⟨fun y d hy => .inr (lookup_filter hy), .inr ⟨_, ds, vs.toArray, rfl, rfl, .head _, h0, ⟨_, 0, Heap.get?_push_size _ rfl, rfl, rfl, rfl⟩, ?_⟩⟩ hk)
      (fun _ s₂ q => ⟨(e₁.same.trans ⟨_, _, rfl⟩).trans q.1, { S with T := s₁.heap.objs.size :: S.T, own := some (x, s₁.heap.objs.size, ds), σ := S.σ.filter fun q => q.1 != x }, ⟨rfl, rfl⟩, q.2.1, h _ (fun q => by obtain ⟨o, e⟩ := F₁.hid _ q; (first | exact clash hno e | exact none1 hno e | obtain rfl := one1 hno e | (rw [hno] at e; cases e)))⟩) fun _ _ x => x
    simpa using A₁.mono (vw_more hno (vw_sub (b0 := 0) F₁.tab (.push _ _)))) (by show vs.toArray.size ≤ sizeLine; rw [List.size_toArray, A₁.length, ← he.len]; exact Nat.le_trans hz (by decide)))) (by rfl)
end
end Mine
/- part B5 -/
namespace Mine
open PySem PySem.W PySem.Calls PyProof.Rows
variable {b0 : Nat}

theorem ev_var {env : Env} {s : Shared} {m : Str → Option Value} {M : Model} {A : Around} {x : Str} {pos : Pos} {v : Value} {Q : Value → Shared → Prop} {E : Value → Shared → Prop} (H : EnvOk env) (h1 : s.heap.Ns env.locals m) (X : Var env s.heap m x v) (h : Q v s)
    (hd : (x == ("__debug__" : Str)) = false) (hn : (x == ("__classdict__" : Str)) = false) : wpAny M A (eval (.Name x pos) env) Q E s := by
  refine wpAny_Name ?_ hd
  cases X with
  | loc a b => exact wpAny_loadName_local H.kind a h1 b h
  | cell c a b e => exact wpAny_loadName_cell H.kind a b e h
  | free c a b e => exact wpAny_loadName_free H.kind a b e h hn
theorem not_interactive {env : Env} (H : EnvOk env) : interactive env = false := by unfold interactive; rw [H.kind]; rfl

section
variable {c : Cx} {S : St} {o : Out} {rest : List Stmt} {ks : List (List Stmt)}

theorem run_append (H : EnvOk c.env) {x : Str} {p ap cp pos : Pos} {e : Expr} {d : D} {a : Addr} {ds : List D} (hw : S.own = some (x, a, ds)) (he : Ev b0 c S e d) (h : Run b0 c { S with own := some (x, a, ds ++ [d]) } rest ks o)
    (hz : ds.length ≤ 100000) (hline : (ap.endLine == cp.line) = true := by rfl) (hst : starEach [e] c.env = [(false, eval e c.env)] := by rfl)
    (hs : swapsWith (.Call (.Attribute (.Name x p) "append" ap) [e] [] cp) none pos.line c.env = pure false := by rfl) (hd : (x == ("__debug__" : Str)) = false := by decide +kernel) (hn : (x == ("__classdict__" : Str)) = false := by decide +kernel) :
    Run b0 c S (.Expr (.Call (.Attribute (.Name x p) "append" ap) [e] [] cp) pos :: rest) ks o := run_cons fun s F =>
  wpAny_Expr_any (wpAny_Call_append rfl (by rw [hst]; rfl) hline (by rw [hst]; rfl) (by
    obtain ⟨m, h1, h2, h3⟩ := F.frame
    obtain ⟨V, a1, a2, vs, a3, a4⟩ := h3 x a ds hw
    refine ev_var H h1 V ⟨a, vs, rfl, a3, he.use F fun v s₁ e₁ F₁ A₁ => ?_⟩ hd hn
    obtain ⟨m', k1, k2, k3⟩ := F₁.frame
    obtain ⟨V', _, _, vs', b3, b4⟩ := k3 x a ds hw
    have hl : vs'.size = ds.length := by have := b4.length; simpa using this
    refine list_append_plainL b3 (fun h' hp' hs' => ⟨e₁.same.trans ⟨h', _, rfl⟩, { S with own := some (x, a, ds ++ [d]) }, ⟨rfl, rfl⟩, ?_, h⟩) (by rw [hl]; exact Nat.le_trans hz (by decide))
    obtain ⟨oa, n, ea, ca, da0, da⟩ := id b3
    have nf : ∀ vs, oa.data ≠ .fields vs := fun vs q => by (first | exact clash da q | exact none1 da q | obtain rfl := one1 da q | (rw [da] at q; cases q))
    obtain ⟨t, k⟩ := F₁.wd_but a2 ea nf hs'.extBut
    have vs1 : Sub (vw S.T s₁.heap) (vw S.T h') := vw_but hs'.extBut ea (.inl a1)
    have cl : ∀ c v, s₁.heap.IsCell c v → h'.IsCell c v := fun c v hc => hc.sameBut hs' (fun q => by
      obtain ⟨o, e, d⟩ := hc
      (first | exact none2 q ea e | obtain rfl := one2 q ea e | (rw [q, ea] at e; cases e)); (first | exact clash da d | exact none1 da d | obtain rfl := one1 da d | (rw [da] at d; cases d)))
    have vr : ∀ y u, Var c.env s₁.heap m' y u → Var c.env h' m' y u := fun y u V => by
      cases V with
      | loc a b => exact .loc a b
      | cell c a b e => exact .cell c a b (cl _ _ e)
      | free c a b e => exact .free c a b (cl _ _ e)
    exact {
      wd₀ := F₁.wd₀, tab := t, keep := k
      hid := fun b hb => by
        obtain ⟨ob, e⟩ := F₁.hid b hb
        by_cases q : b = a
        · subst q; obtain ⟨o', _, e', _⟩ := hp'; exact ⟨o', e'⟩
        · exact ⟨ob, hs'.extBut b ob q e⟩
      sub := F₁.sub, loc := F₁.loc
      cells := fun y c a => let ⟨⟨v, e⟩, z⟩ := F₁.cells y c a; ⟨⟨v, cl _ _ e⟩, z⟩
      frame := ⟨m', k1.sameBut hs' (fun q => by
            obtain ⟨o, es, ep, e, d', _⟩ := k1
            (first | exact none2 q ea e | obtain rfl := one2 q ea e | (rw [q, ea] at e; cases e)); (first | exact clash da d' | exact none1 da d' | obtain rfl := one1 da d' | (rw [da] at d'; cases d'))), fun y d hy => let ⟨u, V, B⟩ := k2 y d hy; ⟨u, vr y u V, B.mono vs1⟩, fun y b es hy => by
          cases hy
          exact ⟨vr _ _ V', a1, a2, vs'.push v, hp', by simpa using (b4.mono vs1).append (.cons (A₁.mono vs1) .nil)⟩⟩ })) (not_interactive H) hs

/-- the own list is changed no more -/
theorem run_freeze {x : Str} {a : Addr} {ds : List D} {T : List Addr} (hw : S.own = some (x, a, ds)) (hT : S.T = a :: T) (hsub : ∀ b ∈ S.T₀, b ∈ T) (haT : a ∉ T) (h : Run b0 c { S with T := T, own := none, σ := (x, .list ds) :: S.σ } rest ks o) : Run b0 c S rest ks o := ⟨fun s F => by
  refine h.use ⟨rfl, rfl⟩ (.refl _) ?_
  obtain ⟨m, h1, h2, h3⟩ := F.frame
  obtain ⟨V, a1, a2, vs, a3, a4⟩ := h3 x a ds hw
  have less : Sub (vw S.T s.heap) (vw T s.heap) := vw_less fun b hb => by rw [hT]; exact List.mem_cons_of_mem _ hb
  refine ⟨F.wd₀, F.tab, F.keep, fun b hb => F.hid b (by rw [hT]; exact List.mem_cons_of_mem _ hb), hsub, F.loc, F.cells, m, h1, fun y d hy => ?_, fun y b es hy => by cases hy⟩
  change ((x, D.list ds) :: S.σ).lookup y = some d at hy
  rw [List.lookup_cons] at hy
  cases hyx : y == x with
  | true =>
    (first | exact clash hyx hy | exact none1 hyx hy | obtain rfl := one1 hyx hy | (rw [hyx] at hy; cases hy))
    obtain rfl : y = x := by simpa using hyx
    exact ⟨_, V, .ofList a3.isList haT (a4.mono less)⟩
  | false =>
    rw [hyx] at hy
    obtain ⟨u, V', B⟩ := h2 y d hy
    exact ⟨u, V', B.mono less⟩⟩

theorem run_if {t : Expr} {body orelse : List Stmt} {pos : Pos} {b : Bool} (ht : Tst b0 c S t b) (h1 : b = true → Run b0 c S body (rest :: ks) o) (h2 : b = false → Run b0 c S orelse (rest :: ks) o) : Run b0 c S (.If t body orelse pos :: rest) ks o := ⟨fun s F =>
  wpAny_execs_cons (wpAny_If (ht.use F fun s₁ e₁ F₁ => by
    cases b with
    | true => exact wpAny_mono ((h1 rfl).use ⟨rfl, rfl⟩ e₁.same F₁) (fun f s' q => by cases f <;> exact q) fun _ _ x => x
    | false => exact wpAny_mono ((h2 rfl).use ⟨rfl, rfl⟩ e₁.same F₁) (fun f s' q => by cases f <;> exact q) fun _ _ x => x))⟩
end
end Mine
/- part B6 -/
namespace Mine
open PySem PySem.W PySem.Calls PyProof.Rows
variable {b0 : Nat}

def ownCells (env : Env) : List Addr := (env.cells.filter fun p => env.kindOf p.1 == some .cell && decide (env.locals < p.2)).map (·.2)
def ownAddr (S : St) : List Addr := match S.own with | some (_, a, _) => [a] | none => []
/-- what a frame may change -/
def mine (env : Env) (S : St) : List Addr := env.locals :: (ownCells env ++ ownAddr S)

/-- no name twice among the own cells -/
def CellsNodup (env : Env) : Prop := ∀ x c, (x, c) ∈ env.cells → env.cells.lookup x = some c

theorem mine_data {w : World} {env : Env} {S : St} {h : Heap} (N : CellsNodup env) (F : FS b0 w env S h) {b : Addr} (hb : b ∈ mine env S) :
    S.h₀.get? b = none ∧ ∃ o, h.get? b = some o ∧ (∀ vs, o.data ≠ .fields vs) ∧ (b ∈ S.T ∨ ∀ vs n, o.data ≠ .seq vs n) := by
  obtain ⟨m, h1, h2, h3⟩ := F.frame
  rcases List.mem_cons.mp hb with rfl | hb
  · obtain ⟨o, es, ep, e, d, _⟩ := h1
    exact ⟨F.loc, o, e, (fun vs q => by (first | exact clash d q | exact none1 d q | obtain rfl := one1 d q | (rw [d] at q; cases q))), .inr (fun vs n q => by (first | exact clash d q | exact none1 d q | obtain rfl := one1 d q | (rw [d] at q; cases q)))⟩
  · rcases List.mem_append.mp hb with hb | hb
    · obtain ⟨⟨x, c⟩, hm, rfl⟩ := List.mem_map.mp hb
      obtain ⟨hm, hk⟩ := List.mem_filter.mp hm
      rw [Bool.and_eq_true] at hk
      obtain ⟨⟨v, o, e, d⟩, z⟩ := F.cells x c (N x c hm)
      have z := z (by simpa using hk.1) (by simpa using hk.2)
      exact ⟨z, o, e, (fun vs q => by (first | exact clash d q | exact none1 d q | obtain rfl := one1 d q | (rw [d] at q; cases q))), .inr (fun vs n q => by (first | exact clash d q | exact none1 d q | obtain rfl := one1 d q | (rw [d] at q; cases q)))⟩
    · unfold ownAddr at hb
      split at hb
      · rename_i x a ds heq
        obtain rfl := List.mem_singleton.mp hb
        obtain ⟨V, a1, a2, vs, ⟨o, n, e, cc, d0, d⟩, a4⟩ := h3 x b ds heq
        exact ⟨a2, o, e, (fun vs q => by (first | exact clash d q | exact none1 d q | obtain rfl := one1 d q | (rw [d] at q; cases q))), .inl a1⟩
      · cases hb

theorem TabOk.hide {h : Heap} {as : List Addr} (t : TabOk h) (ha : ∀ b ∈ as, ∀ o, h.get? b = some o → ∀ vs, o.data ≠ .fields vs) : TabOk (hideAll h as) := by
  obtain ⟨ps, h1, h2, h3, h4⟩ := t
  have key : ∀ c q, h.CodeRec (.ref c) q → (hideAll h as).CodeRec (.ref c) q := fun c q ⟨c', o, vs, t, e, g, d, r⟩ => by
    cases e
    exact ⟨c, o, vs, t, rfl, hideAll_get as g fun hm => ha _ hm o g vs d, d, r⟩
  exact ⟨ps, hideAll_get as h1 fun hm => ha _ hm _ h1 ps rfl, h2, h3.imp id fun ⟨c, a, b⟩ => ⟨c, a, key c _ b⟩, h4.imp id fun ⟨c, a, b⟩ => ⟨c, a, key c _ b⟩⟩

/-- an iterator's object -/
def Iterish (h : Heap) (I : Addr) : Prop := ∃ o vs, h.get? I = some o ∧ o.data = .fields vs ∧ ∀ q t, vs[1]? ≠ some (.str q t)
theorem TabOk.hideI {h : Heap} {I : Addr} (t : TabOk h) (hI : Iterish h I) (hn : I ≠ 149) {h' : Heap} (k : ∀ b o, b ≠ I → h.get? b = some o → h'.get? b = some o) : TabOk h' := by
  obtain ⟨ps, h1, h2, h3, h4⟩ := t
  obtain ⟨oI, vI, eI, dI, qI⟩ := hI
  have key : ∀ c q, h.CodeRec (.ref c) q → h'.CodeRec (.ref c) q := fun c q ⟨c', o, vs, t, e, g, d, r⟩ => by
    cases e
    refine ⟨c, o, vs, t, rfl, k _ _ (fun q' => ?_) g, d, r⟩
    subst q'
    (first | exact clash eI g | exact none1 eI g | obtain rfl := one1 eI g | (rw [eI] at g; cases g))
    (first | exact clash dI d | exact none1 dI d | obtain rfl := one1 dI d | (rw [dI] at d; cases d))
    exact qI _ _ r
  exact ⟨ps, k _ _ (Ne.symm hn) h1, h2, h3.imp id fun ⟨c, a, b⟩ => ⟨c, a, key c _ b⟩, h4.imp id fun ⟨c, a, b⟩ => ⟨c, a, key c _ b⟩⟩

/-- the entry's heap made larger: all that stands but what the frame may change, and I -/
theorem FS.rebase {w : World} {env : Env} {S : St} {h : Heap} (N : CellsNodup env) (F : FS b0 w env S h) : FS b0 w env { S with h₀ := hideAll h (mine env S) } h where
  wd₀ := by
    obtain ⟨g, p, loose, mean, mg, mb, s, B⟩ := F.wd₀.ex
    refine ⟨⟨g, p, loose, mean, mg, mb, fun b o e => ?_, B⟩, F.tab.hide fun b hb o e => ?_⟩
    · have e' := (F.keep b o (fun q => by (first | exact none2 q B.no e | obtain rfl := one2 q B.no e | (rw [q, B.no] at e; cases e))) (s b o e)).lo (Nat.lt_of_lt_of_le (Heap.lt_size e) B.size)
      exact hideAll_get _ e' fun hm => by have z := (mine_data N F hm).1; (first | exact clash (s b o e) z | exact none1 (s b o e) z | obtain rfl := one1 (s b o e) z | (rw [s b o e] at z; cases z))
    · obtain ⟨_, o', e', nf, _⟩ := mine_data N F hb
      (first | exact clash e' e | exact none1 e' e | obtain rfl := one1 e' e | (rw [e'] at e; cases e)); exact nf
  tab := F.tab
  keep := fun b o _ e => .inl (of_hideAll _ e)
  hid := F.hid
  sub := F.sub
  loc := hideAll_none _ (List.mem_cons_self ..)
  cells := fun x c h2 => ⟨(F.cells x c h2).1, fun h1 h3 => hideAll_none _ (List.mem_cons_of_mem _ (List.mem_append_left _ (List.mem_map.mpr ⟨(x, c), List.mem_filter.mpr ⟨mem_of_lookup h2, by simp [h1, h3]⟩, rfl⟩)))⟩
  frame := by
    obtain ⟨m, h1, h2, h3⟩ := F.frame
    refine ⟨m, h1, h2, fun x a ds e => ?_⟩
    obtain ⟨V, a1, a2, r⟩ := h3 x a ds e
    refine ⟨V, a1, hideAll_none _ (List.mem_cons_of_mem _ (List.mem_append_right _ ?_)), r⟩
    change S.own = _ at e
    unfold ownAddr; rw [e]; exact List.mem_singleton.mpr rfl

theorem FS.unbase {w : World} {env : Env} {S S' : St} {h h' : Heap} {as : List Addr} (F : FS b0 w env S h) (F' : FS b0 w env S' h') (e0 : S'.h₀ = hideAll h as) (ha : ∀ b ∈ as, S.h₀.get? b = none) : FS b0 w env { S' with h₀ := S.h₀ } h' := by
  have up : ∀ b o, b ≠ 149 → S.h₀.get? b = some o → Up b0 S'.h₀ b o := fun b o n e => by
    rw [e0]; exact (F.keep b o n e).exact fun o' e' => hideAll_get _ e' fun hm => by (first | exact clash (ha b hm) e | exact none1 (ha b hm) e | obtain rfl := one1 (ha b hm) e | (rw [ha b hm] at e; cases e))
  obtain ⟨m, h1, h2, h3⟩ := F'.frame
  refine ⟨F.wd₀, F'.tab, fun b o n e => (up b o n e).next fun o' e' => F'.keep b o' n e', F'.hid, F'.sub, F.loc, fun x c a => ⟨(F'.cells x c a).1, (F.cells x c a).2⟩, m, h1, h2, fun x a ds e => ?_⟩
  obtain ⟨V, a1, a2, vs, a3, a4⟩ := h3 x a ds e
  refine ⟨V, a1, ?_, vs, a3, a4⟩
  show S.h₀.get? a = none
  cases q : S.h₀.get? a with
  | none => rfl
  | some o =>
    by_cases q' : a = 149
    · subst q'
      obtain ⟨o', n, e', _, _, d'⟩ := a3
      obtain ⟨ps, t1, _⟩ := F'.tab
      (first | exact clash t1 e' | exact none1 t1 e' | obtain rfl := one1 t1 e' | (rw [t1] at e'; cases e')); cases d'
    · obtain ⟨_, e⟩ := (up a o q' q).there
      (first | exact clash e a2 | exact none1 e a2 | obtain rfl := one1 e a2 | (rw [e] at a2; cases a2))

theorem FS.turned {w : World} {env : Env} {S : St} {h h' : Heap} {I : Addr} (F : FS b0 w env S h) (hI : Iterish h I) (h0 : S.h₀.get? I = none) (hn : I ≠ 149)
    (k : ∀ b o, b ≠ I → h.get? b = some o → h'.get? b = some o) (hI' : I ∉ S.T) : FS b0 w env S h' := by
  obtain ⟨oI, vI, eI, dI, qI⟩ := id hI
  have cl : ∀ c v, h.IsCell c v → h'.IsCell c v := fun c v ⟨o, e, d⟩ => ⟨o, k c o (fun q => by (first | exact none2 q eI e | obtain rfl := one2 q eI e | (rw [q, eI] at e; cases e)); (first | exact clash dI d | exact none1 dI d | obtain rfl := one1 dI d | (rw [dI] at d; cases d))) e, d⟩
  have vs' : Sub (vw S.T h) (vw S.T h') := vw_but k eI (.inr fun vs n q => by (first | exact clash dI q | exact none1 dI q | obtain rfl := one1 dI q | (rw [dI] at q; cases q)))
  have vr : ∀ m y u, Var env h m y u → Var env h' m y u := fun m y u V => by
    cases V with
    | loc a b => exact .loc a b
    | cell c a b e => exact .cell c a b (cl _ _ e)
    | free c a b e => exact .free c a b (cl _ _ e)
  obtain ⟨m, h1, h2, h3⟩ := F.frame
  refine ⟨F.wd₀, F.tab.hideI hI hn k, fun b o n e => (F.keep b o n e).exact fun o' e' => k b o' (fun q => by (first | exact none2 q h0 e | obtain rfl := one2 q h0 e | (rw [q, h0] at e; cases e))) e', fun b hb => ?_, F.sub, F.loc, fun x c a => let ⟨⟨v, e⟩, z⟩ := F.cells x c a; ⟨⟨v, cl _ _ e⟩, z⟩, m, ?_, fun y d e => let ⟨v, V, B⟩ := h2 y d e; ⟨v, vr _ _ _ V, B.mono vs'⟩, fun y a ds e => ?_⟩
  · obtain ⟨ob, e⟩ := F.hid b hb
    by_cases q : b = I
    · subst q; exact absurd hb hI'
    · exact ⟨ob, k b ob q e⟩
  · obtain ⟨o, es, ep, e, d, r⟩ := h1
    exact ⟨o, es, ep, k _ _ (fun q => by (first | exact none2 q eI e | obtain rfl := one2 q eI e | (rw [q, eI] at e; cases e)); (first | exact clash dI d | exact none1 dI d | obtain rfl := one1 dI d | (rw [dI] at d; cases d))) e, d, r⟩
  · obtain ⟨V, a1, a2, vs, ⟨o, n, e, cc, d0, d⟩, a4⟩ := h3 y a ds e
    exact ⟨vr _ _ _ V, a1, a2, vs, ⟨o, n, k _ _ (fun q => by (first | exact none2 q eI e | obtain rfl := one2 q eI e | (rw [q, eI] at e; cases e)); (first | exact clash dI d | exact none1 dI d | obtain rfl := one1 dI d | (rw [dI] at d; cases d))) e, cc, d0, d⟩, a4.mono vs'⟩
end Mine
/- part B7 -/
namespace Mine
open PySem PySem.W PySem.Calls PyProof.Rows
variable {b0 : Nat}

/-- an iterator over data -/
structure Itr (prog : Program) (w : World) (A : Around) (T : List Addr) (h : Heap) (ds : List D) (it : Value) (h₂ : Heap) : Prop where
  ex : ∃ I fp P Stt, it = .ref I ∧ Walks prog w A I fp [I] ds.length P Stt ∧ Stt 0 h₂ ∧ h.get? I = none ∧ I ≠ 149 ∧ (∀ i h', Stt i h' → Iterish h' I) ∧
    (∀ b ∈ fp, b = I ∨ (b ∉ T ∧ b ≠ 149 ∧ ∃ o vs n, h.get? b = some o ∧ o.data = .seq vs n)) ∧ ∀ i v, P i v → ∃ d, ds[i]? = some d ∧ DAt (vw T h) v d
/-- data that is iterated -/
structure PyIt (b0 : Nat) (c : Cx) (T : List Addr) (d : D) (ds : List D) : Prop where
  go : ∀ s v, TabOk s.heap → (∀ x ∈ T, ∃ o, s.heap.get? x = some o) → DAt (vw T s.heap) v d → wpAny (model c.prog c.w) c.A (pyIter v) (fun it s₂ => Ext b0 s s₂ ∧ Itr c.prog c.w c.A T s.heap ds it s₂.heap) NoE s

/-- an expression that is iterated -/
structure Src (b0 : Nat) (c : Cx) (S : St) (e : Expr) (ds : List D) : Prop where
  go : ∀ s, FS b0 c.w c.env S s.heap → wpAny (model c.prog c.w) c.A (eval e c.env) (fun v s' => wpAny (model c.prog c.w) c.A (pyIter v) (fun it s₂ => ∃ s₁, Ext b0 s s₁ ∧ Ext b0 s₁ s₂ ∧ Itr c.prog c.w c.A S.T s₁.heap ds it s₂.heap) NoE s') NoE s

section
variable {c : Cx} {S : St} {o : Out} {rest : List Stmt} {ks : List (List Stmt)}

theorem for_core (H : EnvOk c.env) (N : CellsNodup c.env) {x : Str} {p : Pos} {body : List Stmt} {ds : List D} (σ : Nat → List (Str × D)) (own : Nat → Option (Str × Addr × List D))
    (hk : c.env.kindOf x = some .local ∨ (c.env.kindOf x = some .cell ∧ ∃ a, c.env.cells.lookup x = some a ∧ c.env.locals < a)) (hox : ∀ i y a ds, own i = some (y, a, ds) → (y == x) = false)
    (turn : ∀ h₀ i d, ds[i]? = some d → Run b0 c { S with h₀ := h₀, σ := (x, d) :: σ i, own := own i } body [] (.turn { S with h₀ := h₀, σ := σ (i + 1), own := own (i + 1) }))
    {s₂ : Shared} {I : Addr} {fp : List Addr} {P : Nat → Value → Prop} {Stt : Nat → Heap → Prop} (W : Walks c.prog c.w c.A I fp [I] ds.length P Stt) (hst : Stt 0 s₂.heap) (hI0 : S.h₀.get? I = none) (hIT : I ∉ S.T) (hI149 : I ≠ 149) (hIt : ∀ i h', Stt i h' → Iterish h' I)
    (hfp : ∀ b ∈ fp, b = I ∨ (b ∉ S.T ∧ b ≠ 149 ∧ ∃ o vs n, s₂.heap.get? b = some o ∧ o.data = .seq vs n)) (hP : ∀ i v, P i v → ∃ d, ds[i]? = some d ∧ DAt (vw S.T s₂.heap) v d)
    (F₂ : FS b0 c.w c.env { S with σ := σ 0, own := own 0 } s₂.heap) {R : Result → Shared → Prop} (fin : ∀ s', Same s₂ s' → FS b0 c.w c.env { S with σ := σ ds.length, own := own ds.length } s'.heap → R (.ok .next) s') :
    codeAny (model c.prog c.w) c.A (.forLoop (.Name x p) (.ref I) body [] c.env) R s₂ := by
  -- the base of the loop
  let as := I :: mine c.env { S with σ := σ 0, own := own 0 }
  have hIt0 := hIt 0 _ hst
  have asn : ∀ b ∈ as, S.h₀.get? b = none := fun b hb => by
    rcases List.mem_cons.mp hb with rfl | hb
    · exact hI0
    · exact (mine_data N F₂ hb).1
  have F₃ : FS b0 c.w c.env { S with h₀ := hideAll s₂.heap as, σ := σ 0, own := own 0 } s₂.heap := by
    have R := F₂.rebase N
    have hx : hideAll s₂.heap as = hideAll (hideAll s₂.heap [I]) (mine c.env { S with σ := σ 0, own := own 0 }) := rfl
    refine ⟨?_, R.tab, fun b o _ e => .inl (of_hideAll _ e), R.hid, R.sub, hideAll_none _ (List.mem_cons_of_mem _ (List.mem_cons_self ..)), fun y c' b => ⟨(R.cells y c' b).1, fun a lt => ?_⟩, ?_⟩
    · obtain ⟨g, p, loose, mean, mg, mb, st, B⟩ := F₂.wd₀.ex
      refine ⟨⟨g, p, loose, mean, mg, mb, fun b o e => ?_, B⟩, ?_⟩
      · have e' := (F₂.keep b o (fun q => by (first | exact none2 q B.no e | obtain rfl := one2 q B.no e | (rw [q, B.no] at e; cases e))) (st b o e)).lo (Nat.lt_of_lt_of_le (Heap.lt_size e) B.size)
        exact hideAll_get _ e' fun hm => by have z := asn b hm; (first | exact clash (st b o e) z | exact none1 (st b o e) z | obtain rfl := one1 (st b o e) z | (rw [st b o e] at z; cases z))
      · refine (R.wd₀.tab).hideI (I := I) ?_ hI149 fun b o hb e => hideAll_get _ (of_hideAll _ e) fun hm => ?_
        · obtain ⟨oI, vI, eI, dI, qI⟩ := hIt0
          exact ⟨oI, vI, hideAll_get _ eI (fun hm => by
            obtain ⟨_, o', e', nf, _⟩ := mine_data N F₂ hm
            (first | exact clash eI e' | exact none1 eI e' | obtain rfl := one1 eI e' | (rw [eI] at e'; cases e')); exact nf _ dI), dI, qI⟩
        · rcases List.mem_cons.mp hm with rfl | hm
          · exact hb rfl
          · (first | exact clash (hideAll_none _ hm) e | exact none1 (hideAll_none _ hm) e | obtain rfl := one1 (hideAll_none _ hm) e | (rw [hideAll_none _ hm] at e; cases e))
    · exact hideAll_none _ (List.mem_cons_of_mem _ (List.mem_cons_of_mem _ (List.mem_append_left _ (List.mem_map.mpr ⟨(y, c'), List.mem_filter.mpr ⟨mem_of_lookup b, by simp [a, lt]⟩, rfl⟩))))
    · obtain ⟨m, h1, h2, h3⟩ := R.frame
      refine ⟨m, h1, h2, fun y a ds e => ?_⟩
      obtain ⟨V, a1, a2, r⟩ := h3 y a ds e
      refine ⟨V, a1, hideAll_none _ (List.mem_cons_of_mem _ (List.mem_cons_of_mem _ (List.mem_append_right _ ?_))), r⟩
      change own 0 = _ at e
      show a ∈ ownAddr { S with σ := σ 0, own := own 0 }
      unfold ownAddr; rw [e]; exact List.mem_singleton.mpr rfl
  have hIb : (hideAll s₂.heap as).get? I = none := hideAll_none _ (List.mem_cons_self ..)
  -- the items stand in the base
  have items : Sub (vw S.T s₂.heap) (vw S.T (hideAll s₂.heap as)) := fun b ob e hc hd => by
    have e2 := e
    unfold vw at e2 ⊢
    split at e2
    · cases e2
    · rename_i hbT
      rw [if_neg hbT]
      obtain ⟨vs, n, hd⟩ := hd
      refine hideAll_get _ e2 fun hm => ?_
      rcases List.mem_cons.mp hm with rfl | hm
      · obtain ⟨oI, vI, eI, dI, qI⟩ := hIt0
        (first | exact clash eI e2 | exact none1 eI e2 | obtain rfl := one1 eI e2 | (rw [eI] at e2; cases e2)); (first | exact clash dI hd | exact none1 dI hd | obtain rfl := one1 dI hd | (rw [dI] at hd; cases hd))
      · obtain ⟨_, o', e', _, ns⟩ := mine_data N F₂ hm
        (first | exact clash e2 e' | exact none1 e2 e' | obtain rfl := one1 e2 e' | (rw [e2] at e'; cases e'))
        rcases ns with ns | ns
        · exact hbT ns
        · exact ns _ _ hd
  have base_up : ∀ S' h, S'.h₀ = hideAll s₂.heap as → S'.T = S.T → FS b0 c.w c.env S' h → Sub (vw S.T (hideAll s₂.heap as)) (vw S.T h) := fun S' h e0 eT F' b ob e hc hd => by
    unfold vw at e ⊢
    split at e
    · cases e
    · rename_i hbT
      rw [if_neg hbT]
      obtain ⟨vs, n, hd⟩ := hd
      refine (F'.keep b ob (fun q => ?_) (by rw [e0]; exact e)).nd fun es ep q => by (first | exact clash hd q | exact none1 hd q | obtain rfl := one1 hd q | (rw [hd] at q; cases q))
      subst q
      obtain ⟨ps, t1, _⟩ := F₂.tab
      (first | exact clash (of_hideAll _ e) t1 | exact none1 (of_hideAll _ e) t1 | obtain rfl := one1 (of_hideAll _ e) t1 | (rw [of_hideAll _ e] at t1; cases t1)); cases hd
  refine codeAny_forLoop (fun k s' => ∃ i, k = ds.length + 1 - i ∧ i ≤ ds.length ∧ Same s₂ s' ∧ Stt i s'.heap ∧ FS b0 c.w c.env { S with h₀ := hideAll s₂.heap as, σ := σ i, own := own i } s'.heap) ?_ (ds.length + 1) ⟨0, rfl, Nat.zero_le _, .refl _, hst, F₃⟩
  rintro k s' ⟨i, rfl, hi, hsame, hst', F'⟩
  by_cases hlt : i < ds.length
  · refine W.item i s' _ _ hlt hst' fun v h₁ tk₁ hPv hst₁ hk₁ => ?_
    obtain ⟨d, hd, Ad⟩ := hP i v hPv
    have ku : ∀ b o, b ≠ I → s'.heap.get? b = some o → h₁.get? b = some o := fun b o hb e => hk₁ b o (by simpa using hb) e
    have F₄ : FS b0 c.w c.env { S with h₀ := hideAll s₂.heap as, σ := σ i, own := own i } h₁ := F'.turned (hIt i _ hst') hIb hI149 ku hIT
    have Av : DAt (vw S.T h₁) v d := (Ad.mono items).mono (base_up { S with h₀ := hideAll s₂.heap as, σ := σ i, own := own i } _ rfl rfl F₄)
    have F₅ := F₄.rebase N
    have hst₂ : ∀ S' h', S'.h₀ = hideAll h₁ (mine c.env { S with h₀ := hideAll s₂.heap as, σ := σ i, own := own i }) → FS b0 c.w c.env S' h' → Stt (i + 1) h' := fun S' h' e0 F' => by
      refine W.frame _ _ _ hst₁ fun b hb o e => ?_
      have hnm : b ∉ mine c.env { S with h₀ := hideAll s₂.heap as, σ := σ i, own := own i } := fun hm => by
        obtain ⟨_, o', e', nf, ns⟩ := mine_data N F₄ hm
        (first | exact clash e e' | exact none1 e e' | obtain rfl := one1 e e' | (rw [e] at e'; cases e'))
        rcases hfp b hb with rfl | ⟨bT, b149, ob, vs, n, eb, db⟩
        · obtain ⟨oI, vI, eI, dI, qI⟩ := hIt _ _ hst₁
          (first | exact clash eI e | exact none1 eI e | obtain rfl := one1 eI e | (rw [eI] at e; cases e)); exact nf _ dI
        · have e2 := eb
          have e3 : (hideAll s₂.heap as).get? b = some ob := hideAll_get _ e2 fun hm => by
            rcases List.mem_cons.mp hm with rfl | hm
            · obtain ⟨oI, vI, eI, dI, qI⟩ := hIt0
              (first | exact clash eI e2 | exact none1 eI e2 | obtain rfl := one1 eI e2 | (rw [eI] at e2; cases e2)); (first | exact clash dI db | exact none1 dI db | obtain rfl := one1 dI db | (rw [dI] at db; cases db))
            · obtain ⟨_, o', e', _, ns⟩ := mine_data N F₂ hm
              (first | exact clash e2 e' | exact none1 e2 e' | obtain rfl := one1 e2 e' | (rw [e2] at e'; cases e'))
              rcases ns with ns | ns
              · exact bT ns
              · exact ns _ _ db
          have e4 := (F₄.keep b ob b149 e3).nd fun es ep q => by (first | exact clash db q | exact none1 db q | obtain rfl := one1 db q | (rw [db] at q; cases q))
          (first | exact clash e e4 | exact none1 e e4 | obtain rfl := one1 e e4 | (rw [e] at e4; cases e4))
          rcases ns with ns | ns
          · exact bT ns
          · exact ns _ _ db
      have nd : (∀ es ep, o.data ≠ .dict es ep) ∧ b ≠ 149 := by
        rcases hfp b hb with rfl | ⟨bT, b149, ob, vs, n, eb, db⟩
        · obtain ⟨oI, vI, eI, dI, qI⟩ := hIt _ _ hst₁
          (first | exact clash eI e | exact none1 eI e | obtain rfl := one1 eI e | (rw [eI] at e; cases e))
          exact ⟨(fun es ep q => by (first | exact clash dI q | exact none1 dI q | obtain rfl := one1 dI q | (rw [dI] at q; cases q))), hI149⟩
        · have e3 : (hideAll s₂.heap as).get? b = some ob := hideAll_get _ eb fun hm => by
            rcases List.mem_cons.mp hm with rfl | hm
            · obtain ⟨oI, vI, eI, dI, qI⟩ := hIt0
              (first | exact clash eI eb | exact none1 eI eb | obtain rfl := one1 eI eb | (rw [eI] at eb; cases eb)); (first | exact clash dI db | exact none1 dI db | obtain rfl := one1 dI db | (rw [dI] at db; cases db))
            · obtain ⟨_, o', e', _, ns⟩ := mine_data N F₂ hm
              (first | exact clash eb e' | exact none1 eb e' | obtain rfl := one1 eb e' | (rw [eb] at e'; cases e'))
              rcases ns with ns | ns
              · exact bT ns
              · exact ns _ _ db
          have e4 := (F₄.keep b ob b149 e3).nd fun es ep q => by (first | exact clash db q | exact none1 db q | obtain rfl := one1 db q | (rw [db] at q; cases q))
          (first | exact clash e e4 | exact none1 e e4 | obtain rfl := one1 e e4 | (rw [e] at e4; cases e4))
          exact ⟨(fun es ep q => by (first | exact clash db q | exact none1 db q | obtain rfl := one1 db q | (rw [db] at q; cases q))), b149⟩
      exact (F'.keep b o nd.2 (by rw [e0]; exact hideAll_get _ e hnm)).nd nd.1
    refine wpAny_assign_Name (wpAny_mono (FS.store (s := { s' with heap := h₁, toks := tk₁ }) H F₅ (.data Av (hox i)) hk) (fun _ s₃ q₃ => ?_) fun _ _ z => z.elim)
    obtain ⟨hs₃, F₆, _⟩ := q₃
    refine wpAny_mono ((turn _ i d hd).use (S₀ := { S with h₀ := hideAll h₁ (mine c.env { S with h₀ := hideAll s₂.heap as, σ := σ i, own := own i }), σ := σ i, own := own i }) (s₀ := s₂) ⟨rfl, rfl⟩ ((hsame.trans ⟨_, _, rfl⟩).trans hs₃) F₆) (fun f s₄ q₄ => ?_) fun _ _ z => z.elim
    have key : ∀ f', f = f' → Same s₂ s₄ ∧ (f' = .next ∨ f' = .cont) ∧ FS b0 c.w c.env { S with h₀ := hideAll h₁ (mine c.env { S with h₀ := hideAll s₂.heap as, σ := σ i, own := own i }), σ := σ (i + 1), own := own (i + 1) } s₄.heap → ∃ m, m < ds.length + 1 - i ∧ ∃ i_1, m = ds.length + 1 - i_1 ∧ i_1 ≤ ds.length ∧ Same s₂ s₄ ∧ Stt i_1 s₄.heap ∧ FS b0 c.w c.env { S with h₀ := hideAll s₂.heap as, σ := σ i_1, own := own i_1 } s₄.heap := by
      rintro f' rfl ⟨a1, a2, F₇⟩
      exact ⟨ds.length + 1 - (i + 1), turn_lt hlt, i + 1, rfl, hlt, a1, hst₂ _ _ rfl F₇, F₄.unbase F₇ rfl fun b hb => (mine_data N F₄ hb).1⟩
    cases f with
    | next => exact key .next rfl q₄
    | cont => exact key .cont rfl q₄
    | brk => exact absurd q₄.2.1 (by simp)
    | ret v => exact absurd q₄.2.1 (by simp)
  · have hin : i = ds.length := by omega
    subst hin
    refine W.done s' _ _ hst' fun h₁ tk₁ hk₁ => ?_
    have F₄ : FS b0 c.w c.env { S with h₀ := hideAll s₂.heap as, σ := σ ds.length, own := own ds.length } h₁ := F'.turned (hIt _ _ hst') hIb hI149 (fun b o hb e => hk₁ b o (by simpa using hb) e) hIT
    exact wpAny_execs_nil (fin _ (hsame.trans ⟨_, _, rfl⟩) (F₂.unbase F₄ rfl asn))

theorem run_for (H : EnvOk c.env) (N : CellsNodup c.env) {x : Str} {p pos : Pos} {iter : Expr} {body : List Stmt} {ds : List D} (σ : Nat → List (Str × D)) (own : Nat → Option (Str × Addr × List D))
    (he : Src b0 c S iter ds) (h0 : ∀ y d, (σ 0).lookup y = some d → S.σ.lookup y = some d) (hw : S.own = own 0)
    (hk : c.env.kindOf x = some .local ∨ (c.env.kindOf x = some .cell ∧ ∃ a, c.env.cells.lookup x = some a ∧ c.env.locals < a)) (hox : ∀ i y a ds, own i = some (y, a, ds) → (y == x) = false)
    (turn : ∀ h₀ i d, ds[i]? = some d → Run b0 c { S with h₀ := h₀, σ := (x, d) :: σ i, own := own i } body [] (.turn { S with h₀ := h₀, σ := σ (i + 1), own := own (i + 1) }))
    (done : Run b0 c { S with σ := σ ds.length, own := own ds.length } rest ks o)
    (hs : ∀ y, foldedSetIterable iter c.env y = pure y := by intro _; rfl) : Run b0 c S (.For (.Name x p) iter body [] pos :: rest) ks o := run_cons fun s F =>
  wpAny_For (wpAny_mono (he.go s F) (fun v s₀ q₀ => wpAny_mono q₀ (fun it s₂ q => by
    obtain ⟨s₁, e₁, e₂, I, fp, P, Stt, rfl, W, hst, hIn, hI149, hIt, hfp, hP⟩ := q
    have F₁ := F.ext e₁
    have F₂ : FS b0 c.w c.env { S with σ := σ 0, own := own 0 } s₂.heap := (F₁.ext e₂).le ⟨rfl, rfl, rfl, hw.symm, h0⟩
    have hI0 : S.h₀.get? I = none := by
      cases q : S.h₀.get? I with
      | none => rfl
      | some o => obtain ⟨_, e⟩ := (F₁.keep _ _ hI149 q).there; (first | exact clash e hIn | exact none1 e hIn | obtain rfl := one1 e hIn | (rw [e] at hIn; cases hIn))
    have hIT : I ∉ S.T := fun q => by obtain ⟨o, e⟩ := F₁.hid I q; (first | exact clash hIn e | exact none1 hIn e | obtain rfl := one1 hIn e | (rw [hIn] at e; cases e))
    refine for_core H N σ own hk hox turn W hst hI0 hIT hI149 hIt (fun b hb => ?_) (fun i v h => ?_) F₂ fun s' hs F' => ⟨(e₁.same.trans e₂.same).trans hs, { S with σ := σ ds.length, own := own ds.length }, ⟨rfl, rfl⟩, F', done⟩
    · rcases hfp b hb with rfl | ⟨bT, b149, ob, vs, n, eb, db⟩
      · exact .inl rfl
      · exact .inr ⟨bT, b149, ob, vs, n, (e₂.grow.1 b ob b149 eb).nd (fun es ep q => by (first | exact clash db q | exact none1 db q | obtain rfl := one1 db q | (rw [db] at q; cases q))), db⟩
    · obtain ⟨d, hd, Ad⟩ := hP i v h
      exact ⟨d, hd, Ad.mono (vw_sub F₁.tab e₂.grow)⟩) fun _ _ x => x.elim) fun _ _ x => x.elim) hs
end
end Mine
/- part B8 -/
namespace Mine
open PySem PySem.W PySem.Calls PyProof.Rows
variable {b0 : Nat}

section
variable {c : Cx} {S : St} {o : Out} {rest : List Stmt} {ks : List (List Stmt)} {T : List Addr}

theorem src_ev {e : Expr} {d : D} {ds : List D} (he : Ev b0 c S e d) (hi : PyIt b0 c S.T d ds) : Src b0 c S e ds := ⟨fun s F =>
  he.use F fun v s₁ e₁ F₁ A₁ => wpAny_mono (hi.go s₁ v F₁.tab F₁.hid A₁) (fun it s₂ q => ⟨s₁, e₁, q.1, q.2⟩) fun _ _ x => x⟩

theorem fresh_none (h : Heap) : h.get? h.objs.size = none := Heap.get?_none_of_le (Nat.le_refl _)
theorem fresh_149 {h : Heap} (t : TabOk h) : h.objs.size ≠ 149 := fun q => by
  obtain ⟨ps, e, _⟩ := t
  rw [← q] at e; (first | exact clash fresh_none e | exact none1 fresh_none e | obtain rfl := one1 fresh_none e | (rw [fresh_none] at e; cases e))

theorem pyit_list (hh : c.A.handled = none) {ds : List D} : PyIt b0 c T (.list ds) ds := ⟨fun s v t hT hv => by
  obtain ⟨a, vs, rfl, eg, hl, r⟩ := hv.isList vw_le
  refine wpAny_pyIter_list hl ⟨Ext.push _, s.heap.objs.size, [s.heap.objs.size, a], (fun i v => vs[i]? = some v), (fun i h => h.IsListIter s.heap.objs.size a i ∧ h.IsList a vs), rfl, ?_, ⟨⟨_, Heap.get?_push_size _ rfl, rfl, rfl⟩, hl.push _⟩, fresh_none _, fresh_149 t, ?_, ?_, ?_⟩
  · have hne : a ≠ s.heap.objs.size := fun q => by
      obtain ⟨o, e, _⟩ := hl
      (first | exact none2 q fresh_none e | obtain rfl := one2 q fresh_none e | (rw [q, fresh_none] at e; cases e))
    have W := Walks.list (prog := c.prog) (w := c.w) hh s.heap.objs.size a hne vs
    have hsz : vs.size = ds.length := by have := r.length; simpa using this
    rw [hsz] at W
    exact W
  · rintro i h' ⟨⟨o, e, cc, d⟩, _⟩
    exact ⟨o, _, e, d, by intro q t; simp⟩
  · intro b hb
    rcases List.mem_cons.mp hb with rfl | hb
    · exact .inl rfl
    · obtain rfl := List.mem_singleton.mp hb
      obtain ⟨o, e, cc, n, d⟩ := hl
      rw [e] at eg
      refine .inr ⟨fun q => ?_, fun q => ?_, o, _, _, e, d⟩
      · unfold vw at eg; (first | exact clash (if_pos q) eg | exact none1 (if_pos q) eg | obtain rfl := one1 (if_pos q) eg | (rw [if_pos q] at eg; cases eg))
      · subst q
        obtain ⟨ps, e', _⟩ := t
        (first | exact clash e e' | exact none1 e e' | obtain rfl := one1 e e' | (rw [e] at e'; cases e')); cases d
  · intro i v hv
    exact r.get (by simpa using hv)⟩

theorem pyit_bytes (hh : c.A.handled = none) {b : Array UInt8} : PyIt b0 c T (.bytes b) (b.toList.map fun x => D.int (x.toNat : Int)) := ⟨fun s v t hT hv => by
  cases hv with
  | bytes _ tk =>
    refine KBw.pyIter_bytes ⟨Ext.push _, s.heap.objs.size, [s.heap.objs.size], (fun i v => ∃ c u, b[i]? = some c ∧ v = .int (c.toNat : Int) u), (fun i h => KBw.IsBytesIter h s.heap.objs.size b tk i), rfl, ?_, ⟨_, Heap.get?_push_size _ rfl, rfl, rfl⟩, fresh_none _, fresh_149 t, ?_, ?_, ?_⟩
    · have W := KBw.walks (prog := c.prog) (w := c.w) hh s.heap.objs.size b tk
      rw [show b.size = (b.toList.map fun x => D.int (x.toNat : Int)).length by simp] at W
      exact W
    · rintro i h' ⟨o, e, cc, d⟩
      exact ⟨o, _, e, d, by intro q t; simp⟩
    · exact fun b hb => .inl (List.mem_singleton.mp hb)
    · rintro i v ⟨ch, u, h1, rfl⟩
      exact ⟨.int ch.toNat, by simp [h1], .int _ _⟩⟩

theorem pyit_str (hh : c.A.handled = none) {x : Str} : PyIt b0 c T (.str x) (x.cps.toList.map fun n => D.str ⟨#[n]⟩) := ⟨fun s v t hT hv => by
  cases hv with
  | str _ tk =>
    have fin : ∀ (ty : String) (W : Walks c.prog c.w c.A s.heap.objs.size [s.heap.objs.size] [s.heap.objs.size] x.cps.size (SignAt x) (fun i h => h.IsStrIter s.heap.objs.size ty x tk i)),
        Ext b0 s { s with heap := s.heap.push { cls := .type ty, data := .fields #[.str x tk, .int 0 0] } } ∧ Itr c.prog c.w c.A T s.heap (x.cps.toList.map fun n => D.str ⟨#[n]⟩) (.ref s.heap.objs.size) (s.heap.push { cls := .type ty, data := .fields #[.str x tk, .int 0 0] }) := fun ty W => by
      refine ⟨Ext.push _, s.heap.objs.size, [s.heap.objs.size], SignAt x, (fun i h => h.IsStrIter s.heap.objs.size ty x tk i), rfl, ?_, ⟨_, Heap.get?_push_size _ rfl, rfl, rfl⟩, fresh_none _, fresh_149 t, ?_, ?_, ?_⟩
      · rw [show x.cps.size = (x.cps.toList.map fun n => D.str ⟨#[n]⟩).length by simp] at W
        exact W
      · rintro i h' ⟨o, e, cc, d⟩
        exact ⟨o, _, e, d, by intro q t; simp⟩
      · exact fun b hb => .inl (List.mem_singleton.mp hb)
      · rintro i v ⟨ch, u, h1, rfl⟩
        exact ⟨.str ⟨#[ch]⟩, by simp [h1], .str _ _⟩
    cases ha : x.cps.all (· < 128)
    · exact wpAny_pyIter_wide ha (fin _ (Walks.strWide hh _ x tk))
    · exact wpAny_pyIter_ascii ha (fin _ (Walks.strAscii hh _ x tk))⟩

/-- a range's ints -/
def rangeD (a k : Int) (n : Nat) : List D := (rangeInts a k n).map D.int
theorem range_itr (hh : c.A.handled = none) {a b k : Int} {n : Nat} {t u v : Tok} {s₀ s : Shared} {r : Addr} (F : FS b0 c.w c.env S s.heap) (e : Ext b0 s₀ s) (hr : IsRange s.heap r a b k t u v) (hs : Builtin.Range.small a b k = true) (hn : Builtin.Range.rangeSize a b k = (n : Int)) :
    wpAny (model c.prog c.w) c.A (pyIter (.ref r)) (fun it s₂ => ∃ s₁, Ext b0 s₀ s₁ ∧ Ext b0 s₁ s₂ ∧ Itr c.prog c.w c.A S.T s₁.heap (rangeD a k n) it s₂.heap) NoE s := by
  refine wpAny_pyIter_range hr hs ⟨s, e, Ext.push _, s.heap.objs.size, [s.heap.objs.size], (fun i v => i < n ∧ ∃ t, v = .int (a + i * k) t), (fun i h => IsRangeIter h s.heap.objs.size (a + (i : Nat) * k) ((n : Int) - (i : Nat)) k), rfl, ?_, ?_, fresh_none _, fresh_149 F.tab, ?_, ?_, ?_⟩
  · have W := (Walks.range (prog := c.prog) (w := c.w) hh s.heap.objs.size a k n).bound
    rw [show (rangeD a k n).length = n by simp [rangeD, rangeInts]]
    exact W
  · show IsRangeIter _ _ _ _ _
    rw [hn]
    simpa using Heap.get?_push_size s.heap (o := { cls := .type "range_iterator", data := .fields #[rawInt a, rawInt (n : Int), rawInt k] }) rfl
  · intro i h' st
    exact ⟨_, _, st, rfl, by intro q t; simp [rawInt]⟩
  · exact fun b hb => .inl (List.mem_singleton.mp hb)
  · rintro i v ⟨hi, u, rfl⟩
    exact ⟨.int (a + i * k), by simp [rangeD, rangeInts, hi], .int _ _⟩

theorem src_range1 (H : EnvOk c.env) (hh : c.A.handled = none) (hk : c.env.kindOf "range" = some .globalImplicit) {e : Expr} {p pos : Pos} {b : Int} {n : Nat} (he : Ev b0 c S e (.int b)) (hb : 0 ≤ b ∧ b < 2 ^ 40) (hn : b = (n : Int))
    (hst : starEach [e] c.env = [(false, eval e c.env)] := by rfl) : Src b0 c S (.Call (.Name "range" p) [e] [] pos) (rangeD 0 1 n) := ⟨fun s F =>
  Call_Name1 (g_range.go _ _ _ _ _ _ _ H hk F.wd (PyProof.Rows.callWith_type rfl (Calls.evalArgs_plain (Calls.spliced_cons (he.use F fun v s₁ e₁ F₁ A₁ => Calls.spliced_nil (by
    cases A₁ with
    | int _ tk =>
      have e2 : Ext b0 s₁ { s₁ with heap := s₁.heap.push { cls := .type "range", data := .fields #[.int 0 s₁.toks, .int b tk, .int 1 (s₁.toks + 1)] }, toks := s₁.toks + 1 + 1 } := Ext.push _
      exact call_range_1 (range_itr hh (F₁.ext e2) (e₁.trans e2) (IsRange.new ..) (small_one (by decide) (by decide) (by omega) (by omega)) (by rw [rangeSize_nat]; omega)))))))) hst⟩
end
end Mine
/- part B9 -/
namespace Mine
open PySem PySem.W PySem.Calls PyProof.Rows
variable {b0 : Nat}

/-- what a comprehension takes along -/
def clOf (env : Env) : List (Str × NameKind) → List (Str × Addr) → List (Str × Addr)
  | [], acc => acc
  | (n, k) :: r, acc => clOf env r (if k == .free then (n, (env.cells.lookup n).getD 0) :: acc else acc)
theorem closure_of {env : Env} {scope : Scope} (h : ∀ n, (n, NameKind.free) ∈ scope.names → ∃ c, env.cells.lookup n = some c) : closureFor scope env = pure (clOf env scope.names []) := by
  have key : ∀ (names : List (Str × NameKind)) (acc : List (Str × Addr)), (∀ n, (n, NameKind.free) ∈ names → ∃ c, env.cells.lookup n = some c) →
      (forIn names acc fun x r => if (x.2 == NameKind.free) = true then do let a ← cellOf env x.1; pure (ForInStep.yield ((x.1, a) :: r)) else pure (ForInStep.yield r)) = (pure (clOf env names acc) : Sem (List (Str × Addr))) := by
    intro names
    induction names with
    | nil => intro acc _; rfl
    | cons x r ih =>
      intro acc h
      obtain ⟨n, k⟩ := x
      rw [List.forIn_cons]
      unfold clOf
      by_cases hk : (k == NameKind.free) = true
      · obtain rfl : k = .free := by simpa using hk
        obtain ⟨c, hc⟩ := h n (List.mem_cons_self ..)
        have e1 : cellOf env n = pure c := by unfold cellOf; rw [hc]
        simp only [if_true, beq_self_eq_true, e1, hc, Option.getD_some, pure_bind]
        exact ih _ fun m hm => h m (List.mem_cons_of_mem _ hm)
      · simp only [hk, if_false, pure_bind, Bool.false_eq_true]
        exact ih _ fun m hm => h m (List.mem_cons_of_mem _ hm)
  unfold closureFor
  exact (congrArg (· >>= fun s => pure s) (key scope.names [] h)).trans (pure_bind _ _)

theorem clOf_lookup {env : Env} {y : Str} {c : Addr} : ∀ {names : List (Str × NameKind)} {acc : List (Str × Addr)}, (∀ n, (n, NameKind.free) ∈ names → ∃ c, env.cells.lookup n = some c) →
    (clOf env names acc).lookup y = some c → acc.lookup y = some c ∨ ((y, NameKind.free) ∈ names ∧ env.cells.lookup y = some c)
  | [], acc, _, h => .inl h
  | (n, k) :: r, acc, hf, h => by
    unfold clOf at h
    rcases clOf_lookup (fun m hm => hf m (List.mem_cons_of_mem _ hm)) h with q | ⟨h1, h2⟩
    · clear h
      split at q
      · rename_i hk
        obtain rfl : k = .free := by simpa using hk
        rw [List.lookup_cons] at q
        cases hy : y == n with
        | true =>
          rw [hy] at q
          obtain rfl : y = n := by simpa using hy
          obtain ⟨c', hc'⟩ := hf y (List.mem_cons_self ..)
          rw [hc'] at q
          exact .inr ⟨List.mem_cons_self .., by rw [hc']; exact q⟩
        | false => rw [hy] at q; exact .inl q
      · exact .inl q
    · exact .inr ⟨List.mem_cons_of_mem _ h1, h2⟩
theorem clOf_has {env : Env} {y : Str} {c : Addr} (hc : env.cells.lookup y = some c) : ∀ {names : List (Str × NameKind)} {acc : List (Str × Addr)}, ((y, NameKind.free) ∈ names ∨ acc.lookup y = some c) → (clOf env names acc).lookup y = some c
  | [], acc, h => by
    rcases h with h | h
    · cases h
    · exact h
  | (n, k) :: r, acc, h => by
    unfold clOf
    refine clOf_has hc ?_
    rcases h with h | h
    · rcases List.mem_cons.mp h with q | q
      · cases q
        exact .inr (by simp [hc])
      · exact .inl q
    · refine .inr ?_
      split
      · rw [List.lookup_cons]
        cases hy : y == n with
        | true =>
          obtain rfl : y = n := by simpa using hy
          rw [hc]; rfl
        | false => exact h
      · exact h

theorem cellsFrom_cases {x : Str} {c : Addr} : ∀ {names : List (Str × NameKind)} {h : Heap} {acc : List (Str × Addr)}, (cellsFrom h.objs.size names acc).lookup x = some c →
    acc.lookup x = some c ∨ (h.objs.size ≤ c ∧ (x, NameKind.cell) ∈ names ∧ (pushCells h names).IsCell c none)
  | [], h, acc, e => .inl e
  | (n, k) :: r, h, acc, e => by
    unfold cellsFrom at e
    unfold pushCells
    split at e
    · rename_i hk
      obtain rfl : k = .cell := by simpa using hk
      rw [if_pos hk]
      have hs : (h.push { cls := .type "cell", data := .cell none }).objs.size = h.objs.size + 1 := Heap.size_push ..
      rw [← hs] at e
      rcases cellsFrom_cases e with e | ⟨e1, e2, e3⟩
      · rw [List.lookup_cons] at e
        cases hx : x == n with
        | true =>
          (first | exact clash hx e | exact none1 hx e | obtain rfl := one1 hx e | (rw [hx] at e; cases e))
          obtain rfl : x = n := by simpa using hx
          exact .inr ⟨Nat.le_refl _, List.mem_cons_self .., (show (h.push { cls := .type "cell", data := .cell none }).IsCell h.objs.size none from ⟨_, Heap.get?_push_size _ rfl, rfl⟩).keeps (pushCells_keeps _ _)⟩
        | false => rw [hx] at e; exact .inl e
      · exact .inr ⟨by rw [hs] at e1; omega, List.mem_cons_of_mem _ e2, e3⟩
    · rename_i hk
      rw [if_neg hk]
      rcases cellsFrom_cases e with e | ⟨e1, e2, e3⟩
      · exact .inl e
      · exact .inr ⟨e1, List.mem_cons_of_mem _ e2, e3⟩
theorem cellsFrom_acc {x : Str} {c : Addr} : ∀ {names : List (Str × NameKind)} {n : Nat} {acc : List (Str × Addr)}, (∀ k, (x, k) ∈ names → k ≠ .cell) → acc.lookup x = some c → (cellsFrom n names acc).lookup x = some c
  | [], _, _, _, e => e
  | (m, k) :: r, n, acc, hn, e => by
    unfold cellsFrom
    split
    · rename_i hk
      refine cellsFrom_acc (fun k' hk' => hn k' (List.mem_cons_of_mem _ hk')) ?_
      rw [List.lookup_cons]
      cases hx : x == m with
      | true =>
        obtain rfl : x = m := by simpa using hx
        exact absurd (by simpa using hk) (hn k (List.mem_cons_self ..))
      | false => exact e
    · exact cellsFrom_acc (fun k' hk' => hn k' (List.mem_cons_of_mem _ hk')) e
/-- different own cells are different objects -/
theorem cellsFrom_inj {L : Addr} : ∀ {names : List (Str × NameKind)} {n : Nat} {acc : List (Str × Addr)}, (∀ x c, acc.lookup x = some c → c < n) → (∀ x y c, L < c → acc.lookup x = some c → acc.lookup y = some c → x = y) →
    ∀ x y c, L < c → (cellsFrom n names acc).lookup x = some c → (cellsFrom n names acc).lookup y = some c → x = y
  | [], _, _, _, h => h
  | (m, k) :: r, n, acc, hb, h => by
    unfold cellsFrom
    split
    · refine cellsFrom_inj (fun x c e => ?_) fun x y c hL ex ey => ?_
      · rw [List.lookup_cons] at e
        cases hx : x == m with
        | true => (first | exact clash hx e | exact none1 hx e | obtain rfl := one1 hx e | (rw [hx] at e; cases e)); exact Nat.lt_succ_self _
        | false => rw [hx] at e; exact Nat.lt_succ_of_lt (hb x c e)
      · rw [List.lookup_cons] at ex ey
        cases hx : x == m with
        | true =>
          (first | exact clash hx ex | exact none1 hx ex | obtain rfl := one1 hx ex | (rw [hx] at ex; cases ex))
          cases hy : y == m with
          | true => rw [show x = m by simpa using hx, show y = m by simpa using hy]
          | false => rw [hy] at ey; exact absurd (hb y _ ey) (Nat.lt_irrefl _)
        | false =>
          rw [hx] at ex
          cases hy : y == m with
          | true => (first | exact clash hy ey | exact none1 hy ey | obtain rfl := one1 hy ey | (rw [hy] at ey; cases ey)); exact absurd (hb x _ ex) (Nat.lt_irrefl _)
          | false => rw [hy] at ey; exact h x y c hL ex ey
    · exact cellsFrom_inj hb h

/-- a comprehension's own frame -/
def cenvOf (scope : Scope) (env : Env) (C : Addr) : Env :=
  { scope := relabel scope env, locals := C, globals := env.globals, cells := cellsFrom (C + 1) scope.names (clOf env scope.names []), qual := env.qual, func := none, code := env.code, frame := env.frame, builtins := env.builtins }

theorem newEnv_around {M : Model} {A : Around} {E : Value → Shared → Prop} {s : Shared} {scope : Scope} {globals : Addr} {cl : List (Str × Addr)} {qual : Str} {outer : Env} {Q : Env → Shared → Prop}
    (h : Q { scope, locals := s.heap.objs.size, globals, cells := cellsFrom (s.heap.objs.size + 1) scope.names cl, qual, func := none, code := outer.code, frame := outer.frame, builtins := outer.builtins }
      { s with heap := pushCells (s.heap.push { cls := .type "dict", data := .dict #[] }) scope.names }) :
    wpAny M A (newFunctionEnv scope globals cl [] qual none .none (some outer)) Q E s := by
  simp only [newFunctionEnv, Option.isSome_some, if_true]
  refine wpAny_bind (wpAny_alloc ?_)
  refine wpAny_bind (wpAny_layCells _ (fun name kind cells => by cases hkc : kind == NameKind.cell <;> simp [hkc]) _ _ _ _ ?_)
  rw [show ({ s with heap := s.heap.push { cls := .type "dict", data := .dict #[] } } : Shared).heap.objs.size = s.heap.objs.size + 1 from Heap.size_push ..]
  exact wpAny_pure h

end Mine
/- part B10 -/
namespace Mine
open PySem PySem.W PySem.Calls PyProof.Rows
variable {b0 : Nat}

/-- one object changed: neither of the entry nor the frame's -/
theorem FS.changed {w : World} {env : Env} {S : St} {h h' : Heap} {a : Addr} {o : Obj} (F : FS b0 w env S h) (ha : h.get? a = some o) (h0 : S.h₀.get? a = none) (nd : ∀ es ep, o.data ≠ .dict es ep) (nc : ∀ v, o.data ≠ .cell v)
    (hn : a ∈ S.T ∨ ∀ vs n, o.data ≠ .seq vs n) (hown : S.own = none) (t : TabOk h') (k : ∀ b o, b ≠ a → h.get? b = some o → h'.get? b = some o) (hT : a ∈ S.T → ∃ o, h'.get? a = some o) : FS b0 w env S h' := by
  have cl : ∀ c v, h.IsCell c v → h'.IsCell c v := fun c v ⟨o', e, d⟩ => ⟨o', k c o' (fun q => by (first | exact none2 q ha e | obtain rfl := one2 q ha e | (rw [q, ha] at e; cases e)); exact nc _ d) e, d⟩
  have vs' : Sub (vw S.T h) (vw S.T h') := vw_but k ha hn
  obtain ⟨m, h1, h2, h3⟩ := F.frame
  refine ⟨F.wd₀, t, fun b o n e => (F.keep b o n e).exact fun o' e' => k b o' (fun q => by (first | exact none2 q h0 e | obtain rfl := one2 q h0 e | (rw [q, h0] at e; cases e))) e', fun b hb => ?_, F.sub, F.loc, fun x c a => let ⟨⟨v, e⟩, z⟩ := F.cells x c a; ⟨⟨v, cl _ _ e⟩, z⟩, m, ?_, fun y d e => ?_, fun y a ds e => by (first | exact clash hown e | exact none1 hown e | obtain rfl := one1 hown e | (rw [hown] at e; cases e))⟩
  · obtain ⟨ob, e⟩ := F.hid b hb
    by_cases q : b = a
    · subst q; exact hT hb
    · exact ⟨ob, k b ob q e⟩
  · obtain ⟨ol, es, ep, e, d, r⟩ := h1
    exact ⟨ol, es, ep, k _ _ (fun q => by (first | exact none2 q ha e | obtain rfl := one2 q ha e | (rw [q, ha] at e; cases e)); exact nd _ _ d) e, d, r⟩
  · obtain ⟨v, V, B⟩ := h2 y d e
    refine ⟨v, ?_, B.mono vs'⟩
    cases V with
    | loc a b => exact .loc a b
    | cell c a b e => exact .cell c a b (cl _ _ e)
    | free c a b e => exact .free c a b (cl _ _ e)

/-- what a comprehension knows of the names around it -/
def Capt (c : Cx) (S : St) (scope : Scope) (σc : List (Str × D)) : Prop :=
  ∀ y d, σc.lookup y = some d → S.σ.lookup y = some d ∧ (y, NameKind.free) ∈ scope.names ∧ (∀ k, (y, k) ∈ scope.names → k ≠ .cell) ∧ c.env.kindOf y ≠ some .local ∧
    ((relabel scope c.env).names.lookup y = some .cell ∨ (relabel scope c.env).names.lookup y = some .free)
structure CompOk (c : Cx) (scope : Scope) : Prop where
  kind : scope.kind = .function
  names : ∀ x ∈ scope.names, x.2 = .local → scope.names.lookup x.1 = some .local
  free : ∀ n, (n, NameKind.free) ∈ scope.names → ∃ a, c.env.cells.lookup n = some a

section
variable {c : Cx} {S : St} {T : List Addr}

theorem grow_fresh {h h' : Heap} (t : TabOk h') (k : Grow b0 h h') {n : Nat} (hn : h'.objs.size ≤ n) : h.get? n = none := by
  cases q : h.get? n with
  | none => rfl
  | some o =>
    by_cases q' : n = 149
    · obtain ⟨ps, e, _⟩ := t
      rw [q'] at hn
      exact absurd (Heap.lt_size e) (Nat.not_lt.mpr hn)
    · obtain ⟨_, e⟩ := (k.1 _ _ q' q).there
      exact absurd (Heap.lt_size e) (Nat.not_lt.mpr hn)

/-- the comprehension's frame at its start -/
theorem comp_start (H : EnvOk c.env) {scope : Scope} (K : CompOk c scope) {σc : List (Str × D)} (hc : Capt c S scope σc) {h₁ h₂ : Heap} (k : Grow b0 h₁ h₂) (F₁ : FS b0 c.w c.env S h₁) :
    EnvOk (cenvOf scope c.env (h₂.objs.size + 1)) ∧ FS b0 c.w (cenvOf scope c.env (h₂.objs.size + 1)) { h₀ := h₁, T₀ := S.T, T := h₂.objs.size :: S.T, σ := σc, own := none } (pushCells ((h₂.push { cls := .type "list", data := .seq #[] }).push { cls := .type "dict", data := .dict #[] }) scope.names) := by
  have F₂ : FS b0 c.w c.env S h₂ := F₁.grow k
  have s1 : (h₂.push { cls := .type "list", data := .seq #[] }).objs.size = h₂.objs.size + 1 := Heap.size_push ..
  have s2 : ((h₂.push { cls := .type "list", data := .seq #[] }).push { cls := .type "dict", data := .dict #[] }).objs.size = h₂.objs.size + 2 := by rw [Heap.size_push, s1]
  generalize hH : (h₂.push { cls := .type "list", data := .seq #[] }).push { cls := .type "dict", data := .dict #[] } = h₃ at s2
  have k3 : ∀ b o, h₂.get? b = some o → h₃.get? b = some o := fun b o e => hH ▸ Heap.get?_push_of_some _ (Heap.get?_push_of_some _ e)
  have k4 : ∀ b o, h₂.get? b = some o → (pushCells h₃ scope.names).get? b = some o := fun b o e => pushCells_keeps _ _ b o (k3 b o e)
  have hL : h₃.get? (h₂.objs.size + 1) = some { cls := .type "dict", data := .dict #[] } := by rw [← hH, ← s1]; exact Heap.get?_push_size _ rfl
  have hD : h₃.get? h₂.objs.size = some { cls := .type "list", data := .seq #[] } := by rw [← hH]; exact Heap.get?_push_of_some _ (Heap.get?_push_size _ rfl)
  have clo : ∀ y a, (clOf c.env scope.names []).lookup y = some a → (y, NameKind.free) ∈ scope.names ∧ c.env.cells.lookup y = some a := fun y a e => by
    rcases clOf_lookup K.free e with q | q
    · cases q
    · exact q
  have clt : ∀ y a, (clOf c.env scope.names []).lookup y = some a → ∃ v, h₂.IsCell a v := fun y a e => (F₂.cells y a (clo y a e).2).1
  have clt' : ∀ y (a : Nat), (clOf c.env scope.names []).lookup y = some a → a < h₂.objs.size := fun y a e => by obtain ⟨v, x⟩ := clt y a e; exact x.lt
  have G : Grow b0 h₁ (pushCells h₃ scope.names) := k.trans (.of k4)
  refine ⟨⟨K.kind, H.globals, H.builtins, ?_⟩, F₁.wd, G.2 F₁.tab, G.1, ?_, fun a ha => List.mem_cons_of_mem _ ha, ?_, ?_, ?_⟩
  · refine cellsFrom_inj (fun x a e => ?_) fun x y a hlt ex ey => ?_
    · exact Nat.lt_succ_of_lt (Nat.lt_succ_of_lt (clt' x a e))
    · exact absurd (Nat.lt_trans (clt' x a ex) (Nat.lt_succ_self _)) (Nat.not_lt.mpr (Nat.le_of_lt hlt))
  · intro a ha
    rcases List.mem_cons.mp ha with rfl | ha
    · exact ⟨_, pushCells_keeps _ _ _ _ hD⟩
    · obtain ⟨o, e⟩ := F₂.hid a ha
      exact ⟨o, k4 a o e⟩
  · exact grow_fresh F₂.tab k (Nat.le_succ _)
  · intro x a e
    have e' : (cellsFrom h₃.objs.size scope.names (clOf c.env scope.names [])).lookup x = some a := by rw [s2]; exact e
    rcases cellsFrom_cases e' with q | ⟨q1, q2, q3⟩
    · obtain ⟨v, X⟩ := clt x a q
      exact ⟨⟨v, X.keeps k4⟩, fun _ hlt => absurd (Nat.lt_trans (clt' x a q) (Nat.lt_succ_self _)) (Nat.not_lt.mpr (Nat.le_of_lt hlt))⟩
    · exact ⟨⟨none, q3⟩, fun _ _ => grow_fresh F₂.tab k (by rw [s2] at q1; exact Nat.le_trans (Nat.le_add_right _ 2) q1)⟩
  · obtain ⟨m, m1, m2, _⟩ := F₂.frame
    refine ⟨fun _ => none, ⟨_, #[], 0, pushCells_keeps _ _ _ _ hL, rfl, (Heap.Ns.new h₂ (.type "dict")).elim fun o ⟨es, ep, e1, e2, e3, e4⟩ => ?_⟩, fun y d hy => ?_, fun y a ds e => by cases e⟩
    · (first | exact clash (Heap.get?_push_size _ rfl) e1 | exact none1 (Heap.get?_push_size _ rfl) e1 | obtain rfl := one1 (Heap.get?_push_size _ rfl) e1 | (rw [Heap.get?_push_size _ rfl] at e1; cases e1)); cases e2
      exact ⟨e3, e4⟩
    · obtain ⟨q1, q2, q3, q4, q5⟩ := hc y d hy
      obtain ⟨v, V, B⟩ := m2 y d q1
      have hcell : ∃ a, c.env.cells.lookup y = some a ∧ h₂.IsCell a (some v) := by
        cases V with
        | loc a b => exact absurd a q4
        | cell a b e f => exact ⟨a, e, f⟩
        | free a b e f => exact ⟨a, e, f⟩
      obtain ⟨a, e, f⟩ := hcell
      have lk : (cellsFrom (h₂.objs.size + 2) scope.names (clOf c.env scope.names [])).lookup y = some a := cellsFrom_acc q3 (clOf_has e (.inl q2))
      refine ⟨v, ?_, ?_⟩
      · rcases q5 with q5 | q5
        · exact .cell a q5 lk (f.keeps k4)
        · exact .free a q5 lk (f.keeps k4)
      · exact B.mono (vw_more (fresh_none _) (vw_sub (b0 := 0) F₂.tab (.of k4)))

/-- the test of a comprehension -/
def TstIf (b0 : Nat) (c : Cx) (S : St) (ifs : List Expr) (b : Bool) : Prop := (ifs = [] ∧ b = true) ∨ ∃ t, ifs = [t] ∧ Tst b0 c S t b

theorem ev_comp (H : EnvOk c.env) (hh : c.A.handled = none) {elt iter : Expr} {x : Str} {px : Pos} {ifs : List Expr} {scope : Scope} {pos : Pos} {ds : List D} (p : D → Bool) (f : D → D) (σc : List (Str × D)) (K : CompOk c scope) (hcap : Capt c S scope σc)
    (hsrc : Src b0 c S iter ds)
    (hx : ∀ C, (cenvOf scope c.env C).kindOf x = some .local ∨ ((cenvOf scope c.env C).kindOf x = some .cell ∧ ∃ a, (cenvOf scope c.env C).cells.lookup x = some a ∧ C < a))
    (turn : ∀ (C : Addr) (h₀ : Heap) (a : Addr) (i : Nat) (d : D), ds[i]? = some d → FS b0 c.w c.env S h₀ → EnvOk (cenvOf scope c.env C) →
      TstIf b0 { c with env := cenvOf scope c.env C } { h₀ := h₀, T₀ := S.T, T := a :: S.T, σ := (x, d) :: σc, own := none } ifs (p d) ∧
      (p d = true → Ev b0 { c with env := cenvOf scope c.env C } { h₀ := h₀, T₀ := S.T, T := a :: S.T, σ := (x, d) :: σc, own := none } elt (f d)))
    (hz : ds.length ≤ 100000) (hxc : σc.lookup x = none)
    (hs : ∀ y, foldedSetIterable iter c.env y = pure y := by intro _; rfl) :
    Ev b0 c S (.ListComp elt [⟨.Name x px, iter, ifs, 0⟩] scope pos) (.list ((ds.filter p).map f)) := ⟨fun s F => by
  rw [eval_ListComp]
  refine wpAny_comprehension_free (cl := clOf c.env scope.names []) rfl hs (closure_of K.free) K.kind K.names (wpAny_mono (hsrc.go s F) (fun v s₀ q₀ => wpAny_mono q₀ (fun it s₂ q => ?_) fun _ _ x => x.elim) fun _ _ x => x.elim)
  obtain ⟨s₁, e₁, e₂, I, fp, P, Stt, rfl, W, hst, hIn, hI149, hIt, hfp, hP⟩ := q
  have F₁ := F.ext e₁
  have F₂ := F₁.ext e₂
  obtain ⟨Hc, Fc⟩ := comp_start H K hcap e₂.grow F₁
  refine wpAny_newObj_type (newEnv_around ?_) (by size_fits)
  have s1 : (s₂.heap.push { cls := .type "list", data := .seq #[] }).objs.size = s₂.heap.objs.size + 1 := Heap.size_push ..
  dsimp only
  rw [show ([] : List Value).toArray = #[] from rfl, s1]
  have hD0 : (pushCells ((s₂.heap.push { cls := .type "list", data := .seq #[] }).push { cls := .type "dict", data := .dict #[] }) scope.names).get? s₂.heap.objs.size = some { cls := .type "list", data := .seq #[] } :=
    pushCells_keeps _ _ _ _ (Heap.get?_push_of_some _ (Heap.get?_push_size _ rfl))
  have k04 : ∀ b o, s₂.heap.get? b = some o → (pushCells ((s₂.heap.push { cls := .type "list", data := .seq #[] }).push { cls := .type "dict", data := .dict #[] }) scope.names).get? b = some o := fun b o e =>
    pushCells_keeps _ _ _ _ (Heap.get?_push_of_some _ (Heap.get?_push_of_some _ e))
  generalize hHH : pushCells ((s₂.heap.push { cls := .type "list", data := .seq #[] }).push { cls := .type "dict", data := .dict #[] }) scope.names = HH at Fc hD0 k04 ⊢
  have sD : s₂.heap.objs.size = s₂.heap.objs.size := rfl
  generalize hDD : s₂.heap.objs.size = DD at Fc Hc hD0 ⊢
  have hD1 : s₁.heap.get? DD = none := grow_fresh F₂.tab e₂.grow (Nat.le_of_eq hDD)
  have hDn : DD ≠ 149 := fun q => by subst q; exact fresh_149 F₂.tab hDD
  have hIo : ∃ o, s₂.heap.get? I = some o := by obtain ⟨o, vs, e, _⟩ := hIt 0 _ hst; exact ⟨o, e⟩
  have hID : I ≠ DD := fun q => by obtain ⟨o, e⟩ := hIo; rw [q, ← hDD, fresh_none] at e; cases e
  have hIT : I ∉ DD :: S.T := fun q => by
    rcases List.mem_cons.mp q with q | q
    · exact hID q
    · obtain ⟨o, e⟩ := F₁.hid I q; (first | exact clash hIn e | exact none1 hIn e | obtain rfl := one1 hIn e | (rw [hIn] at e; cases e))
  have fpD : ∀ b ∈ fp, b ≠ DD := fun b hb q => by
    subst q
    rcases hfp _ hb with q | ⟨_, _, o, vs, n, e, _⟩
    · exact hID q.symm
    · (first | exact clash hD1 e | exact none1 hD1 e | obtain rfl := one1 hD1 e | (rw [hD1] at e; cases e))
  have fp149 : ∀ b ∈ fp, b ≠ 149 := fun b hb => by
    rcases hfp _ hb with rfl | ⟨_, h, _⟩
    · exact hI149
    · exact h
  -- the objects of the first heap go through
  have up : ∀ (S' : St) h, S'.h₀ = s₁.heap → FS b0 c.w (cenvOf scope c.env (DD + 1)) S' h → Sub (vw S.T s₁.heap) (vw (DD :: S.T) h) := fun S' h e0 F' b ob e hc hd => by
    unfold vw at e ⊢
    split at e
    · cases e
    · rename_i hbT
      rw [if_neg]
      · obtain ⟨vs, n, hd⟩ := hd
        refine (F'.keep b ob (fun q => ?_) (by rw [e0]; exact e)).nd fun es ep q => by (first | exact clash hd q | exact none1 hd q | obtain rfl := one1 hd q | (rw [hd] at q; cases q))
        subst q
        obtain ⟨ps, t1, _⟩ := F₁.tab
        (first | exact clash e t1 | exact none1 e t1 | obtain rfl := one1 e t1 | (rw [e] at t1; cases t1)); cases hd
      · intro q
        rcases List.mem_cons.mp q with rfl | q
        · (first | exact clash hD1 e | exact none1 hD1 e | obtain rfl := one1 hD1 e | (rw [hD1] at e; cases e))
        · exact hbT q
  have loop : ∀ s' : Shared, s'.heap = HH → Same s₂ s' → codeAny (model c.prog c.w) c.A (.compLoop (.ListComp elt [⟨.Name x px, iter, ifs, 0⟩] scope pos) 0 (.ref I) (.ref DD) (cenvOf scope c.env (DD + 1)))
      (compPost (model c.prog c.w) c.A NoE none (fun v s' => Ext b0 s s' ∧ DAt (vw S.T s'.heap) v (.list ((ds.filter p).map f))) (.ref DD) (DD + 1)) s' := fun s' hs' hsm => by
    refine codeAny_compLoop_tests (fun k s' => ∃ i ys, k = ds.length + 1 - i ∧ i ≤ ds.length ∧ Same s₂ s' ∧ Stt i s'.heap ∧ FS b0 c.w (cenvOf scope c.env (DD + 1)) { h₀ := s₁.heap, T₀ := S.T, T := DD :: S.T, σ := σc, own := none } s'.heap ∧ PlainL s'.heap DD ys ∧
      DAll (vw (DD :: S.T) s'.heap) ys.toList (((ds.take i).filter p).map f)) ?_ (ds.length + 1) ⟨0, #[], rfl, Nat.zero_le _, hsm, ?_, hs' ▸ Fc, ?_, .nil⟩
    rotate_left
    · rw [hs']
      exact W.frame _ _ _ hst fun b hb o e => k04 b o e
    · rw [hs']
      exact ⟨_, 0, hD0, rfl, rfl, rfl⟩
    rintro k s' ⟨i, ys, rfl, hi, hsm, hst', F', hpl, hall⟩
    have vsI : ∀ h₁ : Heap, (∀ b o, b ≠ I → s'.heap.get? b = some o → h₁.get? b = some o) → Sub (vw (DD :: S.T) s'.heap) (vw (DD :: S.T) h₁) := fun h₁ ku => by
      obtain ⟨oI, vI, eI, dI, qI⟩ := hIt _ _ hst'
      exact vw_but ku eI (.inr fun vs n q => by (first | exact clash dI q | exact none1 dI q | obtain rfl := one1 dI q | (rw [dI] at q; cases q)))
    have plI : ∀ h₁ : Heap, (∀ b o, b ≠ I → s'.heap.get? b = some o → h₁.get? b = some o) → PlainL h₁ DD ys := fun h₁ ku => by
      obtain ⟨o, n, e, r⟩ := hpl
      exact ⟨o, n, ku _ _ (Ne.symm hID) e, r⟩
    by_cases hlt : i < ds.length
    · refine W.item i s' _ _ hlt hst' fun v h₁ tk₁ hPv hst₁ hk₁ => ?_
      obtain ⟨d, hd, Ad⟩ := hP i v hPv
      have ku : ∀ b o, b ≠ I → s'.heap.get? b = some o → h₁.get? b = some o := fun b o hb e => hk₁ b o (by simpa using hb) e
      have F₃ := F'.turned (hIt i _ hst') hIn hI149 ku hIT
      have Av : DAt (vw (DD :: S.T) h₁) v d := Ad.mono (up _ _ rfl F₃)
      have pl₁ := plI h₁ ku
      have all₁ := hall.mono (vsI h₁ ku)
      refine wpAny_assign_Name (wpAny_mono (FS.store (s := { s' with heap := h₁, toks := tk₁ }) Hc F₃ (.data Av (fun _ _ _ q => by cases q)) (hx (DD + 1))) (fun _ s₃ q₃ => ?_) fun _ _ z => z.elim)
      obtain ⟨hs₃, F₄, hnf, _⟩ := q₃
      have st₃ : Stt (i + 1) s₃.heap := W.frame _ _ _ hst₁ fun b hb o e => by
        rcases hfp b hb with rfl | ⟨bT, b149, ob, vs, n, eb, db⟩
        · obtain ⟨oI, vI, eI, dI, qI⟩ := hIt _ _ hst₁
          (first | exact clash eI e | exact none1 eI e | obtain rfl := one1 eI e | (rw [eI] at e; cases e))
          exact hnf _ _ eI (fun es ep q => by (first | exact clash dI q | exact none1 dI q | obtain rfl := one1 dI q | (rw [dI] at q; cases q))) fun v q => by (first | exact clash dI q | exact none1 dI q | obtain rfl := one1 dI q | (rw [dI] at q; cases q))
        · have e4 := (F₃.keep b ob b149 eb).nd fun es ep q => by (first | exact clash db q | exact none1 db q | obtain rfl := one1 db q | (rw [db] at q; cases q))
          (first | exact clash e e4 | exact none1 e e4 | obtain rfl := one1 e e4 | (rw [e] at e4; cases e4))
          exact hnf _ _ e (fun es ep q => by (first | exact clash db q | exact none1 db q | obtain rfl := one1 db q | (rw [db] at q; cases q))) fun v q => by (first | exact clash db q | exact none1 db q | obtain rfl := one1 db q | (rw [db] at q; cases q))
      have vs3 : Sub (vw (DD :: S.T) h₁) (vw (DD :: S.T) s₃.heap) := fun b ob e hc hd => by
        unfold vw at e ⊢
        split at e
        · cases e
        · rename_i hb
          rw [if_neg hb]
          obtain ⟨vs, n, hd⟩ := hd
          exact hnf _ _ e (fun es ep q => by (first | exact clash hd q | exact none1 hd q | obtain rfl := one1 hd q | (rw [hd] at q; cases q))) fun v q => by (first | exact clash hd q | exact none1 hd q | obtain rfl := one1 hd q | (rw [hd] at q; cases q))
      have pl₃ : PlainL s₃.heap DD ys := by
        obtain ⟨o, n, e, cc, d0, dd⟩ := pl₁
        exact ⟨o, n, hnf _ _ e (fun es ep q => by (first | exact clash dd q | exact none1 dd q | obtain rfl := one1 dd q | (rw [dd] at q; cases q))) (fun v q => by (first | exact clash dd q | exact none1 dd q | obtain rfl := one1 dd q | (rw [dd] at q; cases q))), cc, d0, dd⟩
      have all₃ := all₁.mono vs3
      have F₅ : FS b0 c.w (cenvOf scope c.env (DD + 1)) { h₀ := s₁.heap, T₀ := S.T, T := DD :: S.T, σ := (x, d) :: σc, own := none } s₃.heap := F₄
      obtain ⟨ht, he⟩ := turn (DD + 1) s₁.heap DD i d hd F₁ Hc
      have hsm₃ : Same s₂ s₃ := (hsm.trans ⟨_, _, rfl⟩).trans hs₃
      have drop : ∀ h, FS b0 c.w (cenvOf scope c.env (DD + 1)) { h₀ := s₁.heap, T₀ := S.T, T := DD :: S.T, σ := (x, d) :: σc, own := none } h → FS b0 c.w (cenvOf scope c.env (DD + 1)) { h₀ := s₁.heap, T₀ := S.T, T := DD :: S.T, σ := σc, own := none } h := fun h F =>
        F.le ⟨rfl, rfl, rfl, rfl, fun y e hy => by
          show ((x, d) :: σc).lookup y = some e
          rw [List.lookup_cons]
          cases hyx : y == x with
          | true =>
            obtain rfl : y = x := by simpa using hyx
            (first | exact clash hxc hy | exact none1 hxc hy | obtain rfl := one1 hxc hy | (rw [hxc] at hy; cases hy))
          | false => exact hy⟩
      have fpnd : ∀ b ∈ fp, ∀ o, s₃.heap.get? b = some o → ∀ es ep, o.data ≠ .dict es ep := fun b hb o e es ep q => by
        rcases hfp b hb with rfl | ⟨bT, b149, ob, vs, n, eb, db⟩
        · obtain ⟨oI, vI, eI, dI, qI⟩ := hIt _ _ st₃
          (first | exact clash eI e | exact none1 eI e | obtain rfl := one1 eI e | (rw [eI] at e; cases e)); (first | exact clash dI q | exact none1 dI q | obtain rfl := one1 dI q | (rw [dI] at q; cases q))
        · have e4 := (F₄.keep b ob b149 eb).nd fun es ep q => by (first | exact clash db q | exact none1 db q | obtain rfl := one1 db q | (rw [db] at q; cases q))
          (first | exact clash e e4 | exact none1 e e4 | obtain rfl := one1 e e4 | (rw [e] at e4; cases e4)); (first | exact clash db q | exact none1 db q | obtain rfl := one1 db q | (rw [db] at q; cases q))
      have stG : ∀ s₄, Ext b0 s₃ s₄ → Stt (i + 1) s₄.heap := fun s₄ e₄ => W.frame _ _ _ st₃ fun b hb o e => (e₄.grow.1 b o (fp149 b hb) e).nd (fpnd b hb o e)
      have take1 : (((ds.take (i + 1)).filter p).map f) = (((ds.take i).filter p).map f) ++ (if p d then [f d] else []) := by
        rw [take_succ_filter p ds i d hd, List.map_append]
        cases p d <;> rfl
      have body : ∀ s₄ : Shared, Ext b0 s₃ s₄ → p d = true → wpAny (model c.prog c.w) c.A (eval elt (cenvOf scope c.env (DD + 1))) (fun y s₅ => wpAny (model c.prog c.w) c.A (call (.builtin "list.append") [.ref DD, y]) (fun _ s₆ => ∃ m, m < ds.length + 1 - i ∧ ∃ i ys, m = ds.length + 1 - i ∧ i ≤ ds.length ∧ Same s₂ s₆ ∧ Stt i s₆.heap ∧
          FS b0 c.w (cenvOf scope c.env (DD + 1)) { h₀ := s₁.heap, T₀ := S.T, T := DD :: S.T, σ := σc, own := none } s₆.heap ∧ PlainL s₆.heap DD ys ∧ DAll (vw (DD :: S.T) s₆.heap) ys.toList (((ds.take i).filter p).map f)) NoE s₅) NoE s₄ := fun s₄ e₄ hpd => by
        refine (he hpd).use (c := { c with env := cenvOf scope c.env (DD + 1) }) (F₅.ext e₄) fun y s₅ e₅ F₆ Ay => ?_
        have e45 := e₄.trans e₅
        have pl₅ := PlainL_grow F₅.tab e45.grow pl₃
        have all₅ := all₃.mono (vw_sub F₅.tab e45.grow)
        have hys : ys.size ≤ sizeLine := by
          have e1 := hall.length
          have e2 : ((ds.take i).filter p).length ≤ (ds.take i).length := List.length_filter_le _ _
          have e3 : (ds.take i).length ≤ ds.length := by rw [List.length_take]; omega
          simp only [Array.length_toList, List.length_map] at e1
          have : (100000 : Nat) ≤ sizeLine := by decide
          omega
        refine list_append_plainL pl₅ (fun h₆ pl₆ hs₆ => ?_) hys
        obtain ⟨oD, nD, eD, cD, d0D, dD⟩ := id pl₅
        have nf : ∀ vs, oD.data ≠ .fields vs := fun vs q => by (first | exact clash dD q | exact none1 dD q | obtain rfl := one1 dD q | (rw [dD] at q; cases q))
        have F₇ := F₆.changed (h' := h₆) (a := DD) eD hD1 (fun es ep q => by (first | exact clash dD q | exact none1 dD q | obtain rfl := one1 dD q | (rw [dD] at q; cases q))) (fun v q => by (first | exact clash dD q | exact none1 dD q | obtain rfl := one1 dD q | (rw [dD] at q; cases q))) (.inl (List.mem_cons_self ..)) rfl (F₆.tab.keepsBut eD nf hs₆.extBut) hs₆.extBut (fun _ => by obtain ⟨o, n, e, _⟩ := pl₆; exact ⟨o, e⟩)
        have vs6 : Sub (vw (DD :: S.T) s₅.heap) (vw (DD :: S.T) h₆) := vw_but hs₆.extBut eD (.inl (List.mem_cons_self ..))
        refine ⟨ds.length + 1 - (i + 1), turn_lt hlt, i + 1, ys.push y, rfl, hlt, (hsm₃.trans e45.same).trans ⟨_, _, rfl⟩, W.frame _ _ _ (stG _ e45) fun b hb o e => hs₆.extBut b o (fpD b hb) e, drop _ F₇, pl₆, ?_⟩
        rw [take1, hpd, if_pos rfl]
        simpa using (all₅.mono vs6).append (.cons (Ay.mono vs6) .nil)
      have skip : ∀ s₄ : Shared, Ext b0 s₃ s₄ → p d = false → ∃ m, m < ds.length + 1 - i ∧ ∃ i ys, m = ds.length + 1 - i ∧ i ≤ ds.length ∧ Same s₂ s₄ ∧ Stt i s₄.heap ∧
          FS b0 c.w (cenvOf scope c.env (DD + 1)) { h₀ := s₁.heap, T₀ := S.T, T := DD :: S.T, σ := σc, own := none } s₄.heap ∧ PlainL s₄.heap DD ys ∧ DAll (vw (DD :: S.T) s₄.heap) ys.toList (((ds.take i).filter p).map f) := fun s₄ e₄ hpd => by
        refine ⟨ds.length + 1 - (i + 1), turn_lt hlt, i + 1, ys, rfl, hlt, hsm₃.trans e₄.same, stG _ e₄, drop _ (F₅.ext e₄), PlainL_grow F₅.tab e₄.grow pl₃, ?_⟩
        rw [take1, hpd]
        simpa using all₃.mono (vw_sub F₅.tab e₄.grow)
      rcases ht with ⟨rfl, hpd⟩ | ⟨t, rfl, ht⟩
      · refine wpAny_tests_nil ?_
        rw [if_pos rfl]
        exact wpAny_mono (wpAny_mono (body s₃ (.refl _) hpd) (fun y s₅ q => wpAny_mono q (fun _ _ z => z) fun _ _ z => z.elim) fun _ _ z => z) (fun _ _ z => z) fun _ _ z => z.elim
      · refine wpAny_tests_one (ht.use (c := { c with env := cenvOf scope c.env (DD + 1) }) F₅ fun s₄ e₄ F₆ => ?_)
        cases hpd : p d with
        | true =>
          rw [if_pos rfl]
          exact wpAny_mono (body s₄ e₄ hpd) (fun y s₅ q => wpAny_mono q (fun _ _ z => z) fun _ _ z => z.elim) fun _ _ z => z.elim
        | false =>
          rw [if_neg (by decide)]
          exact skip s₄ e₄ hpd
    · have hin : i = ds.length := by omega
      subst hin
      refine W.done s' _ _ hst' fun h₁ tk₁ hk₁ => ?_
      have ku : ∀ b o, b ≠ I → s'.heap.get? b = some o → h₁.get? b = some o := fun b o hb e => hk₁ b o (by simpa using hb) e
      have F₃ := F'.turned (hIt _ _ hst') hIn hI149 ku hIT
      obtain ⟨m, m1, _⟩ := F₃.frame
      refine ⟨m, m1, fun h' hs' => ?_⟩
      obtain ⟨oL, es, ep, eL, dL, _⟩ := id m1
      have zz : s₁.heap.get? (DD + 1) = none := F₃.loc
      have G₁ : Grow b0 s₁.heap h' := ⟨fun b o n e => (F₃.keep b o n e).exact fun o' e' => hs'.extBut b o' (fun q : b = DD + 1 => by (first | exact none2 q zz e | obtain rfl := one2 q zz e | (rw [q, zz] at e; cases e))) e', fun _ => F₃.tab.keepsBut eL (fun vs q => by (first | exact clash dL q | exact none1 dL q | obtain rfl := one1 dL q | (rw [dL] at q; cases q))) hs'.extBut⟩
      refine ⟨e₁.trans (((e₂.same.trans hsm).trans ⟨h', tk₁, rfl⟩).ext G₁), ?_⟩
      have all₁ := (hall.mono (vsI h₁ ku)).mono (vw_but hs'.extBut eL (.inr fun vs n q => by (first | exact clash dL q | exact none1 dL q | obtain rfl := one1 dL q | (rw [dL] at q; cases q))))
      rw [List.take_length] at all₁
      obtain ⟨o, n, e, cc, d0, dd⟩ := plI h₁ ku
      have hDT : DD ∉ S.T := fun q => by obtain ⟨o, e⟩ := F₁.hid _ q; (first | exact clash hD1 e | exact none1 hD1 e | obtain rfl := one1 hD1 e | (rw [hD1] at e; cases e))
      exact .ofList ⟨o, hs'.extBut _ _ (Nat.ne_of_lt (Nat.lt_succ_self DD)) e, cc, n, dd⟩ hDT (all₁.mono (vw_less fun a ha => List.mem_cons_of_mem _ ha))
  have hst0 : codeAny (model c.prog c.w) c.A (.compLoop (.ListComp elt [⟨.Name x px, iter, ifs, 0⟩] scope pos) 0 (.ref I) (.ref DD) (cenvOf scope c.env (DD + 1)))
      (compPost (model c.prog c.w) c.A NoE none (fun v s' => Ext b0 s s' ∧ DAt (vw S.T s'.heap) v (.list ((ds.filter p).map f))) (.ref DD) (DD + 1)) { s₂ with heap := HH } := loop _ rfl ⟨_, _, rfl⟩
  refine codeAny_compStart_list hst0 (W.self 0 _ _ _ (W.frame _ _ _ hst fun b hb o e => k04 b o e) hst0)⟩
end
end Mine
/- part B11 -/
namespace Mine
open PySem PySem.W PySem.Calls PyProof.Rows
variable {b0 : Nat}

/-- a function's contract: of arguments that are the data ds it gives back r -/
structure Fn (b0 : Nat) (prog : Program) (w : World) (k : Nat) (a : Addr) (ds : List D) (kw : List (Str × D)) (r : D) : Prop where
  go : ∀ A s vs ks T, Room k A → Wd b0 w s.heap → (∀ x ∈ T, ∃ o, s.heap.get? x = some o) → DAll (vw T s.heap) vs ds → ks.map (·.1) = kw.map (·.1) → DAll (vw T s.heap) (ks.map (·.2)) (kw.map (·.2)) →
    codeAny (model prog w) A (.call (.ref a) ⟨vs, ks⟩) (fun res s' => ∃ v, res = .ok (.ret v) ∧ Ext b0 s s' ∧ DAt (vw T s'.heap) v r) s

theorem Wd.obj {w : World} {h : Heap} (W : Wd b0 w h) {a : Addr} {o : Obj} (e : (frag w.params).lookup a = some o) : h.get? a = some o := by
  obtain ⟨g, p, loose, mean, mg, mb, s, B⟩ := W.ex
  exact s _ _ (B.K _ _ e)
theorem Wd.lim {w : World} {h : Heap} (W : Wd b0 w h) : h.NoLimit := by
  obtain ⟨g, p, loose, mean, mg, mb, s, B⟩ := W.ex
  exact B.T.nolimit.keeps s
theorem Wd.code {w : World} {h : Heap} (W : Wd b0 w h) {cd : Value} {q : Str} (e : codeIn (frag w.params) cd q = true) : h.CodeRec cd q := by
  obtain ⟨g, p, loose, mean, mg, mb, s, B⟩ := W.ex
  exact codeRec_of (fun a o e => s _ _ (B.K _ _ e)) e

/-- a call's frame -/
def bindsOf (ps : List Str) (vs : List Value) : List (Str × Value) := ps.zip vs

theorem bindL_lookup {kindOf : Str → Option NameKind} {y : Str} : ∀ {bs : List (Str × Value)} {m : Str → Option Value}, (∀ p ∈ bs, kindOf p.1 = some .local) → (bs.map (·.1)).Nodup → bindL kindOf bs m y = (bs.lookup y).or (m y)
  | [], m, _, _ => by simp [bindL]
  | (n, v) :: r, m, hk, hn => by
    unfold bindL
    rw [if_pos (hk _ (List.mem_cons_self ..))]
    obtain ⟨h1, h2⟩ := List.nodup_cons.mp hn
    rw [bindL_lookup (fun p hp => hk p (List.mem_cons_of_mem _ hp)) h2, List.lookup_cons]
    by_cases hy : y = n
    · subst hy
      have : r.lookup y = none := by
        cases q : r.lookup y with
        | none => rfl
        | some z => exact absurd (List.mem_map.mpr ⟨_, mem_of_lookup q, rfl⟩) h1
      simp [this]
    · have : (y == n) = false := by simpa using hy
      simp [this, hy]

/-- a function's frame at its start -/
theorem call_start {w : World} {fd : FuncData} {a : Addr} {s s₁ : Shared} {T : List Addr} {binds : List (Str × Value)} {σ : List (Str × D)} (W : Wd b0 w s.heap) (hT : ∀ x ∈ T, ∃ o, s.heap.get? x = some o)
    (hk : fd.scope.kind = .function) (hg : fd.globals = mainGlobals) (hb : fd.builtins = builtinsNs) (hloc : ∀ p ∈ binds, fd.scope.names.lookup p.1 = some .local) (hnd : (binds.map (·.1)).Nodup)
    (hn : binds.map (·.1) = σ.map (·.1)) (hd : DAll (vw T s.heap) (binds.map (·.2)) (σ.map (·.2)))
    (X : InCallC s (callEnvC fd s.heap.objs.size a).locals (bindL (callEnvC fd s.heap.objs.size a).kindOf binds fun _ => none) (callEnvC fd s.heap.objs.size a).cells (bindC (callEnvC fd s.heap.objs.size a).kindOf binds fun _ => none) s₁) :
    EnvOk (callEnvC fd s.heap.objs.size a) ∧ Same s s₁ ∧ FS b0 w (callEnvC fd s.heap.objs.size a) { h₀ := s.heap, T₀ := T, T := T, σ := σ, own := none } s₁.heap := by
  have G : Grow b0 s.heap s₁.heap := .of X.toInCall.keep
  refine ⟨⟨hk, hg, hb, ?_⟩, by obtain ⟨h, tk, e⟩ := X.toInCall.same; exact ⟨h, tk, e⟩, W, G.2 W.tab, G.1, fun b hb => ?_, fun _ h => h, fresh_none _, fun x c e => ⟨⟨_, X.cell x c e⟩, fun _ _ => ?_⟩, _, X.toInCall.ns, fun y d hy => ?_, fun y b ds e => by cases e⟩
  · intro x y c _ ex ey
    exact name_of_addr X.apart (mem_of_lookup ex) (mem_of_lookup ey)
  · obtain ⟨o, e⟩ := hT b hb
    exact ⟨o, X.toInCall.keep b o e⟩
  · exact Heap.get?_none_of_le (Nat.le_of_lt (X.above x c (mem_of_lookup e)))
  · have key : ∀ (bs : List (Str × Value)) (σ : List (Str × D)), bs.map (·.1) = σ.map (·.1) → DAll (vw T s.heap) (bs.map (·.2)) (σ.map (·.2)) → σ.lookup y = some d → ∃ v, bs.lookup y = some v ∧ DAt (vw T s.heap) v d := by
      intro bs
      induction bs with
      | nil => intro σ h1 h2 h3; cases σ with | nil => cases h3 | cons => cases h1
      | cons p r ih =>
        intro σ h1 h2 h3
        cases σ with
        | nil => cases h1
        | cons q t =>
          obtain ⟨n, v⟩ := p
          obtain ⟨n', e⟩ := q
          simp only [List.map_cons, List.cons.injEq] at h1
          obtain ⟨rfl, h1⟩ := h1
          cases h2 with
          | cons hv hr =>
            rw [List.lookup_cons] at h3 ⊢
            cases hy : y == n with
            | true => (first | exact clash hy h3 | exact none1 hy h3 | obtain rfl := one1 hy h3 | (rw [hy] at h3; cases h3)); exact ⟨v, rfl, hv⟩
            | false => rw [hy] at h3; exact ih t h1 hr h3
    obtain ⟨v, hv, A⟩ := key binds σ hn hd hy
    have hkind : (callEnvC fd s.heap.objs.size a).kindOf y = some .local := hloc _ (mem_of_lookup hv)
    refine ⟨v, .loc hkind ?_, A.mono (vw_sub W.tab G)⟩
    rw [bindL_lookup hloc hnd, hv]; rfl

theorem code_call {prog : Program} {w : World} {A : Around} {s : Shared} {a : Addr} {o : Obj} {fd : FuncData} {body : List Stmt} {args : Args} {binds : List (Str × Value)} {R : Result → Shared → Prop}
    (hroom : A.depth < recursionLimit) (ho : s.heap.get? a = some o) (hdata : o.data = .func fd) (hlim : s.heap.NoLimit) (hcd : s.heap.CodeRec fd.code fd.qualname)
    (hbody : fd.body = .stmts body) (hbind : wpAny (model prog w) A.in1 (bindArgs fd args) (fun b s₁ => b = binds ∧ s₁ = s) NoE s) (hclo : fd.closure = [])
    (hkind : ∀ x ∈ binds, fd.scope.names.lookup x.1 = some .local)
    (h : ∀ s₁, InCallC s (callEnvC fd s.heap.objs.size a).locals (bindL (callEnvC fd s.heap.objs.size a).kindOf binds fun _ => none) (callEnvC fd s.heap.objs.size a).cells
        (bindC (callEnvC fd s.heap.objs.size a).kindOf binds fun _ => none) s₁ →
      wpAny (model prog w) (A.deeper (callEnvC fd s.heap.objs.size a)) (execs body (callEnvC fd s.heap.objs.size a)) (fun f s' => R (.ok (.ret (match f with | .ret v => v | _ => .none))) s') NoE s₁)
    (hco : fd.scope.isCoroutine = false) (hgen : fd.scope.isGenerator = false) (hk : fd.scope.kind = .function) :
    codeAny (model prog w) A (.call (.ref a) args) R s := by
  refine codeAny_call_function hroom ho hdata hco hgen hbody hcd ?_
  rw [hclo]
  refine wpAny_mono hbind (fun b s₁ q => ?_) fun _ _ x => x.elim
  obtain ⟨rfl, rfl⟩ := q
  refine wpAny_newFunctionEnv_cells hk (fun x hx => .inl (hkind x hx)) fun env he s' x => ?_
  subst he
  exact ⟨hlim.keeps x.toInCall.keep, codeAny_func (wpAny_mono (h s' x) (fun _ _ z => z) fun _ _ z => z.elim)⟩

/-- a contract by a run of the body -/
theorem fn_of {prog : Program} {w : World} {k : Nat} {a : Addr} {ds : List D} {kw : List (Str × D)} {r : D} {oc : Value} {od : Option Addr} {osl : Array (Option Value)} {fd : FuncData} {body : List Stmt} (ps : List Str) (extra : List (Str × D))
    (hK : (frag w.params).lookup a = some ⟨oc, od, .func fd, osl⟩) (hcd : codeIn (frag w.params) fd.code fd.qualname = true) (hbody : fd.body = .stmts body)
    (hclo : fd.closure = []) (hg : fd.globals = mainGlobals) (hb : fd.builtins = builtinsNs) (hk : fd.scope.kind = .function) (hco : fd.scope.isCoroutine = false) (hgen : fd.scope.isGenerator = false)
    (hps : (ps.all fun x => fd.scope.names.lookup x == some .local) = true) (hnd : ps.Nodup)
    (σ : List (Str × D)) (hσ : σ.map (·.1) = ps)
    (hbind : ∀ A s vs ks T, Wd b0 w s.heap → DAll (vw T s.heap) vs ds → ks.map (·.1) = kw.map (·.1) → DAll (vw T s.heap) (ks.map (·.2)) (kw.map (·.2)) →
      ∃ us, us.length = ps.length ∧ DAll (vw T s.heap) us (σ.map (·.2)) ∧ wpAny (model prog w) A (bindArgs fd ⟨vs, ks⟩) (fun b s₁ => b = ps.zip us ∧ s₁ = s) NoE s)
    (h : ∀ A L h₀ T, Room k A → EnvOk (callEnvC fd L a) → Run b0 ⟨prog, w, A, callEnvC fd L a⟩ { h₀ := h₀, T₀ := T, T := T, σ := σ, own := none } body [] (.ret r)) : Fn b0 prog w (k + 1) a ds kw r := ⟨fun A s vs ks T R W hT hv hn hkv => by
  obtain ⟨us, hl, hu, hbnd⟩ := hbind A.in1 s vs ks T W hv hn hkv
  have zip1 : (ps.zip us).map (·.1) = ps := List.map_fst_zip (Nat.le_of_eq hl.symm)
  have zip2 : (ps.zip us).map (·.2) = us := List.map_snd_zip (Nat.le_of_eq hl)
  have hloc : ∀ p ∈ ps.zip us, fd.scope.names.lookup p.1 = some .local := fun p hp => by
    have := List.all_eq_true.mp hps p.1 (List.of_mem_zip hp).1
    simpa using this
  refine code_call R.room (W.obj hK) rfl W.lim (W.code hcd) hbody hbnd hclo hloc (fun s₁ X => ?_) hco hgen hk
  obtain ⟨H, hs, F⟩ := call_start (σ := σ) W hT hk hg hb hloc (by rw [zip1]; exact hnd) (by rw [zip1]; exact hσ.symm) (by rw [zip2]; exact hu) X
  have run := h (A.deeper (callEnvC fd s.heap.objs.size a)) s.heap.objs.size s.heap T R.deeper H
  refine wpAny_mono (run.go s₁ F) (fun f s₂ q => ?_) fun _ _ x => x
  have key : ∀ f', f = f' → Same s₁ s₂ → (∃ v, f' = .ret v ∧ Grow b0 s.heap s₂.heap ∧ DAt (vw T s₂.heap) v r) → ∃ v, (Except.ok (Flow.ret (match f with | .ret v => v | _ => .none)) : Result) = .ok (.ret v) ∧ Ext b0 s s₂ ∧ DAt (vw T s₂.heap) v r := by
    rintro f' rfl h1 ⟨v, rfl, g, d⟩
    exact ⟨v, rfl, (hs.trans h1).ext g, d⟩
  cases f with
  | next => exact key .next rfl q.1 q.2
  | brk => exact key .brk rfl q.1 q.2
  | cont => exact key .cont rfl q.1 q.2
  | ret v => exact key (.ret v) rfl q.1 q.2⟩

/-- plain arguments -/
theorem bind_plain {prog : Program} {w : World} {fd : FuncData} {ps : List Str} {ds : List D} (hb : ∀ vs : List Value, vs.length = ps.length → bindArgs fd ⟨vs, []⟩ = pure (ps.zip vs)) (hl : ds.length = ps.length) :
    ∀ A s vs ks T, Wd b0 w s.heap → DAll (vw T s.heap) vs ds → ks.map (·.1) = ([] : List (Str × D)).map (·.1) → DAll (vw T s.heap) (ks.map (·.2)) (([] : List (Str × D)).map (·.2)) →
      ∃ us, us.length = ps.length ∧ DAll (vw T s.heap) us ds ∧ wpAny (model prog w) A (bindArgs fd ⟨vs, ks⟩) (fun b s₁ => b = ps.zip us ∧ s₁ = s) NoE s := fun A s vs ks T W hv hn _ => by
  obtain rfl : ks = [] := by cases ks with | nil => rfl | cons => cases hn
  have := hv.length
  exact ⟨vs, by omega, hv, by rw [hb vs (by omega)]; exact wpAny_pure ⟨rfl, rfl⟩⟩

section
variable {c : Cx} {S : St}

theorem ev_call {k : Nat} {x : Str} {a : Addr} {oc : Value} {od : Option Addr} {osl : Array (Option Value)} {fd : FuncData} {e : Expr} {es : List Expr} {p pos : Pos} {ds : List D} {r : D} (H : EnvOk c.env) (R : Room k c.A) (hk : c.env.kindOf x = some .globalImplicit) (G : Gl b0 c.w x (.ref a))
    (hK : (frag c.w.params).lookup a = some ⟨oc, od, .func fd, osl⟩) (hf : Fn b0 c.prog c.w k a ds [] r) (he : EvAll b0 c S (e :: es) ds) (hs : ((e :: es).all fun e => !isStarred e) = true := by rfl) (hst : starEach (e :: es) c.env = (false, eval e c.env) :: starEach es c.env := by rfl) :
    Ev b0 c S (.Call (.Name x p) (e :: es) [] pos) r := ⟨fun s F =>
  Call_ (G.go _ _ _ _ _ _ _ H hk F.wd (callWith_def (o := ⟨oc, od, .func fd, osl⟩) rfl (he.use hs F fun vs s₁ e₁ F₁ A₁ => ⟨F₁.wd.obj hK, wpAny_call (codeAny_mono (hf.go c.A s₁ vs [] S.T R F₁.wd F₁.hid A₁ rfl .nil) fun res s₂ q => by
    obtain ⟨v, rfl, e₂, d⟩ := q
    exact ⟨e₁.trans e₂, d⟩)⟩) hst))⟩
end
end Mine
/- part B12 -/
namespace Mine
open PySem PySem.W PySem.Calls PyProof.Rows
variable {b0 : Nat}

/-- a call of a value of the language -/
structure BC (b0 : Nat) (c : Cx) (T : List Addr) (f : Value) (ds : List D) (r : D) : Prop where
  go : ∀ s vs, Wd b0 c.w s.heap → (∀ x ∈ T, ∃ o, s.heap.get? x = some o) → DAll (vw T s.heap) vs ds → wpAny (model c.prog c.w) c.A (call f vs) (fun v s' => Ext b0 s s' ∧ DAt (vw T s'.heap) v r) NoE s

section
variable {c : Cx} {S : St} {T : List Addr}

theorem ev_bn {x : Str} {id : String} {e : Expr} {es : List Expr} {p pos : Pos} {ds : List D} {r : D} (H : EnvOk c.env) (hk : c.env.kindOf x = some .globalImplicit) (G : Gl b0 c.w x (.builtin id)) (he : EvAll b0 c S (e :: es) ds) (hf : BC b0 c S.T (.builtin id) ds r)
    (hs : ((e :: es).all fun e => !isStarred e) = true := by rfl) (hst : starEach (e :: es) c.env = (false, eval e c.env) :: starEach es c.env := by rfl) (hpl : (backTo pos (starEach es c.env)).any (·.1) = false := by rfl) :
    Ev b0 c S (.Call (.Name x p) (e :: es) [] pos) r := ⟨fun s F =>
  Call_ (G.go _ _ _ _ _ _ _ H hk F.wd (callWith_builtin1 (he.use hs F fun vs s₁ e₁ F₁ A₁ => wpAny_mono (hf.go s₁ vs F₁.wd F₁.hid A₁) (fun v s₂ q => ⟨e₁.trans q.1, q.2⟩) fun _ _ x => x) hst hpl))⟩
theorem ev_bt {x : Str} {ty : String} {e : Expr} {es : List Expr} {p pos : Pos} {ds : List D} {r : D} (H : EnvOk c.env) (hk : c.env.kindOf x = some .globalImplicit) (G : Gl b0 c.w x (.type ty)) (he : EvAll b0 c S (e :: es) ds) (hf : BC b0 c S.T (.type ty) ds r)
    (hs : ((e :: es).all fun e => !isStarred e) = true := by rfl) (hst : starEach (e :: es) c.env = (false, eval e c.env) :: starEach es c.env := by rfl) (hpl : (backTo pos (starEach es c.env)).any (·.1) = false := by rfl) :
    Ev b0 c S (.Call (.Name x p) (e :: es) [] pos) r := ⟨fun s F =>
  Call_ (G.go _ _ _ _ _ _ _ H hk F.wd (PyProof.Rows.callWith_type1 (he.use hs F fun vs s₁ e₁ F₁ A₁ => wpAny_mono (hf.go s₁ vs F₁.wd F₁.hid A₁) (fun v s₂ q => ⟨e₁.trans q.1, q.2⟩) fun _ _ x => x) hst hpl))⟩
theorem ev_gl {x : Str} {v : Value} {p : Pos} (H : EnvOk c.env) (hk : c.env.kindOf x = some .globalImplicit) (G : Gl b0 c.w x v) : Ev b0 c S (.Name x p) (.val v) := ⟨fun s F =>
  G.go _ _ _ _ _ _ _ H hk F.wd ⟨.refl _, .val _⟩⟩

theorem bc_len_str {x : Str} (h : x.length ≤ 100000) : BC b0 c T (.builtin "len") [.str x] (.int x.length) := ⟨fun s vs W hT hv => by
  cases hv with
  | cons h1 h2 => cases h1; cases h2; exact P.len_str (by omega) ⟨.tok _ _, .int _ _⟩⟩
theorem bc_len_bytes {x : Array UInt8} (h : x.size ≤ 100000) : BC b0 c T (.builtin "len") [.bytes x] (.int x.size) := ⟨fun s vs W hT hv => by
  cases hv with
  | cons h1 h2 => cases h1; cases h2; exact len_bytes (by omega) ⟨.tok _ _, .int _ _⟩⟩
theorem bc_len_list {ds : List D} (h : ds.length ≤ 100000) : BC b0 c T (.builtin "len") [.list ds] (.int ds.length) := ⟨fun s vs W hT hv => by
  cases hv with
  | cons h1 h2 =>
    cases h2
    obtain ⟨a, us, rfl, _, hl, r⟩ := h1.isList vw_le
    have := r.length
    simp only [Array.length_toList] at this
    rw [← this]
    exact Calls.call_len_list hl (by omega) ⟨.tok _ _, .int _ _⟩⟩
theorem bc_abs {i : Int} : BC b0 c T (.builtin "abs") [.int i] (.int i.natAbs) := ⟨fun s vs W hT hv => by
  cases hv with
  | cons h1 h2 =>
    cases h1; cases h2
    rw [show ((i.natAbs : Nat) : Int) = if i < 0 then -i else i by split <;> omega]
    exact PyProof.Rows.call_abs_int fun u tk => ⟨.tok _ _, .int _ _⟩⟩
theorem bc_str_int {i : Int} (h : i.natAbs.log2 < 1920) : BC b0 c T (.type "str") [.int i] (.str (toString i)) := ⟨fun s vs W hT hv => by
  cases hv with
  | cons h1 h2 => cases h1; cases h2; exact P.str_of_int h ⟨.tok _ _, .str _ _⟩⟩
theorem bc_ord {x : Str} (h : x.length = 1) : BC b0 c T (.builtin "ord") [.str x] (.int (x.cps.getD 0 0 : Nat)) := ⟨fun s vs W hT hv => by
  cases hv with
  | cons h1 h2 => cases h1; cases h2; exact PyProof.Rows.ord_of_one h ⟨.tok _ _, .int _ _⟩⟩
theorem bc_int_text {x : Str} {n : Int} (hn : PySem.intText? x = some n) (hl : x.length ≤ 640) : BC b0 c T (.type "int") [.str x] (.int n) := ⟨fun s vs W hT hv => by
  cases hv with
  | cons h1 h2 => cases h1; cases h2; exact KIN.call_text hn hl ⟨.tok _ _, .int _ _⟩⟩

theorem ints_of {g : Vw} : ∀ {vs : List Value} {ns : List Int}, DAll g vs (ns.map D.int) → IntsAre vs ns
  | [], [], _ => .nil
  | v :: vs, n :: ns, .cons h r => by cases h; exact .cons _ _ (ints_of r)
theorem bc_bytes {ns : List Int} (hh : c.A.handled = none) (hr : ∀ n ∈ ns, 0 ≤ n ∧ n < 256) (hz : ns.length ≤ 100000) : BC b0 c T (.type "bytes") [.list (ns.map D.int)] (.bytes (byteArr ns)) := ⟨fun s vs W hT hv => by
  cases hv with
  | cons h1 h2 =>
    cases h2
    obtain ⟨a, us, rfl, _, hl, r⟩ := h1.isList vw_le
    have l := r.length
    have : (100000 : Nat) ≤ sizeLine := by decide
    exact call_bytes_ints (vs := us.toList) (by simpa using hl) (ints_of r) hr (by rw [l]; simp; omega) hh fun h' t k hk => ⟨.of hk, .bytes _ _⟩⟩
theorem bc_max {i j : Int} (hh : c.A.handled = none) : BC b0 c T (.builtin "max") [.int i, .int j] (.int (if j > i then j else i)) := ⟨fun s vs W hT hv => by
  cases hv with
  | cons h1 h2 =>
    cases h1
    cases h2 with
    | cons h2 h3 =>
      cases h2; cases h3
      refine max_two_ints hh fun h' tk hk => ⟨.of hk, ?_⟩
      split <;> exact .int _ _⟩
theorem bc_sum {ns : List Int} (hh : c.A.handled = none) (hfit : PySem.SumFits ns) : BC b0 c T (.builtin "sum") [.list (ns.map D.int)] (.int ns.sum) := ⟨fun s vs W hT hv => by
  cases hv with
  | cons h1 h2 =>
    cases h2
    obtain ⟨a, us, rfl, _, hl, r⟩ := h1.isList vw_le
    have hi := ints_of r
    obtain ⟨xs, e⟩ := hi.allInts.items
    have hu : us = intItems xs := by rw [← e]
    subst hu
    have hn := hi.numsOf
    rw [nums_intItems] at hn
    have hs : ns.length = xs.size := by rw [← hn]; simp
    refine sum_intList hh hl (fun j hj => ?_) fun h' tk t' hk => ⟨.of hk, ?_⟩
    · rw [numAt_eq, preSum_eq, hn]; exact hfit j (by omega)
    · rw [preSum_eq, hn, List.take_of_length_le (by omega)]; exact .int _ _⟩
theorem bc_type {d : D} {T' : String} (h : ∀ (s : Shared) v, DAt (vw T s.heap) v d → s.TypeIs v T') (hnb : (Value.type T' == Value.type "builtin_function_or_method") = false := by decide) : BC b0 c T (.type "type") [d] (.val (.type T')) := ⟨fun s vs W hT hv => by
  cases hv with
  | cons h1 h2 => cases h2; exact call_type_of (h s _ h1) hnb ⟨.refl _, .val _⟩⟩
end
end Mine
/- part B13 -/
namespace Mine
open PySem PySem.W PySem.Calls PyProof.Rows
variable {b0 : Nat}

/-- methods -/
structure Mt (T : List Addr) (name : Str) (o : D) (id : String) : Prop where
  go : ∀ (M : Model) (A : Around) (s : Shared) (v : Value) (pl : Sem Bool) (Q : Value × List Value → Shared → Prop) (E : Value → Shared → Prop), DAt (vw T s.heap) v o → Q (.builtin id, [v]) s → wpAny M A (getMethod v name pl) Q E s

section
variable {c : Cx} {S : St} {T : List Addr}
theorem mt_join {x : Str} : Mt T "join" (.str x) "str.join" := ⟨fun M A s v pl Q E h q => by cases h; exact meth_join q⟩
theorem mt_encode {x : Str} : Mt T "encode" (.str x) "str.encode" := ⟨fun M A s v pl Q E h q => by cases h; exact meth_encode q⟩
theorem mt_decode {b : Array UInt8} : Mt T "decode" (.bytes b) "bytes.decode" := ⟨fun M A s v pl Q E h q => by cases h; exact meth_decode q⟩

theorem ev_meth {o : Expr} {name : Str} {ap pos : Pos} {e : Expr} {es : List Expr} {od : D} {ds : List D} {r : D} {id : String} {pl : Sem Bool} (ho : Ev b0 c S o od) (hm : Mt S.T name od id) (he : EvAll b0 c S (e :: es) ds) (hf : BC b0 c S.T (.builtin id) (od :: ds) r)
    (hcall : eval (.Call (.Attribute o name ap) (e :: es) [] pos) c.env = (do
      let ov ← eval o c.env
      standAt ap.atName
      let (f, first) ← holding [ov] (getMethod ov name pl)
      callWith pos f first (backTo pos (starEach (e :: es) c.env)) (backToKw pos (keywordEach [] c.env))) := by rfl)
    (hs : ((e :: es).all fun e => !isStarred e) = true := by rfl) (hst : starEach (e :: es) c.env = (false, eval e c.env) :: starEach es c.env := by rfl) (hpl : (backTo pos (starEach es c.env)).any (·.1) = false := by rfl) :
    Ev b0 c S (.Call (.Attribute o name ap) (e :: es) [] pos) r := ⟨fun s F =>
  methodCall_KW (ho.use F fun v s₁ e₁ F₁ A₁ => hm.go _ _ _ _ _ _ _ A₁ (by
    show wpAny _ _ (callWith pos (.builtin id) [v] (backTo pos (starEach (e :: es) c.env)) []) _ _ _
    rw [hst]
    refine Calls.callWith_builtin (by show (false || (backTo pos (starEach es c.env)).any (·.1)) = false; rw [hpl]; rfl) (Calls.evalArgs_plain ?_)
    show wpAny _ _ (spliced (backTo pos ((false, eval e c.env) :: starEach es c.env))) _ _ _
    rw [← hst]
    refine he.use hs F₁ fun vs s₂ e₂ F₂ A₂ => wpAny_mono (hf.go s₂ (v :: vs) F₂.wd F₂.hid (.cons (A₁.mono (vw_sub F₁.tab e₂.grow)) A₂)) (fun v s₃ q => ⟨(e₁.trans e₂).trans q.1, q.2⟩) fun _ _ x => x)) hcall⟩

theorem strs_of {g : Vw} : ∀ {vs : List Value} {ns : List Str}, DAll g vs (ns.map D.str) → StrsAre vs ns
  | [], [], _ => .nil
  | v :: vs, n :: ns, .cons h r => by cases h; exact .cons _ _ (strs_of r)
theorem bc_join {x : Str} {ns : List Str} (hok : (ns.map (·.length)).sum + ns.length * x.length ≤ 16777216) : BC b0 c T (.builtin "str.join") [.str x, .list (ns.map D.str)] (.str (Txt.join x ns)) := ⟨fun s vs W hT hv => by
  cases hv with
  | cons h1 h2 =>
    cases h1
    cases h2 with
    | cons h2 h3 =>
      cases h3
      obtain ⟨a, us, rfl, _, hl, r⟩ := h2.isList vw_le
      exact PyProof.Rows.join_list hl (strs_of r) hok fun t' k => ⟨.tok _ _, .str _ _⟩⟩
theorem bc_encode {x : Str} (h : ∀ c ∈ x.cps.toList, c < 128) (hz : x.length ≤ 100000) : BC b0 c T (.builtin "str.encode") [.str x, .str "ascii"] (.bytes (x.cps.map (·.toUInt8))) := ⟨fun s vs W hT hv => by
  cases hv with
  | cons h1 h2 =>
    cases h1
    cases h2 with
    | cons h2 h3 => cases h2; cases h3; exact call_encode h hz fun t' k => ⟨.tok _ _, .bytes _ _⟩⟩
theorem bc_decode {b : Array UInt8} (hz : b.size ≤ 100000) : BC b0 c T (.builtin "bytes.decode") [.bytes b, .str "latin-1"] (.str ⟨b.map (·.toNat)⟩) := ⟨fun s vs W hT hv => by
  cases hv with
  | cons h1 h2 =>
    cases h1
    cases h2 with
    | cons h2 h3 => cases h2; cases h3; exact call_decode hz fun t' k => ⟨.tok _ _, .str _ _⟩⟩

/-- items -/
structure It (b0 : Nat) (c : Cx) (T : List Addr) (o : D) (i : Int) (r : D) : Prop where
  go : ∀ (s : Shared) (v : Value) (t : Tok), DAt (vw T s.heap) v o → (∃ ty id, s.TypeIs v ty ∧ typeLookup (.type ty) "__getitem__" = pure (some (.builtin id))) ∧ wpAny (model c.prog c.w) c.A (getItem v (.int i t)) (fun x s' => Ext b0 s s' ∧ DAt (vw T s'.heap) x r) NoE s
theorem it_list {ds : List D} {i : Int} {j : Nat} {r : D} (hj : i = j) (hr : ds[j]? = some r) (hz : j < 2 ^ 40) : It b0 c T (.list ds) i r := ⟨fun s v t h => by
  obtain ⟨a, us, rfl, _, hl, q⟩ := h.isList vw_le
  obtain ⟨x, hx, A⟩ := q.get' hr
  exact ⟨⟨_, _, hl.typeIs, slot_list_getitem.lookup⟩, wpAny_getItem_list hl (by omega) (by omega) (by rw [hj]; simpa using hx) ⟨.refl _, A⟩⟩⟩
theorem it_list_neg {ds : List D} {i : Int} {j : Nat} {r : D} (hi : i < 0) (hj : i + ds.length = j) (hr : ds[j]? = some r) (hz : ds.length < 2 ^ 40) : It b0 c T (.list ds) i r := ⟨fun s v t h => by
  obtain ⟨a, us, rfl, _, hl, q⟩ := h.isList vw_le
  obtain ⟨x, hx, A⟩ := q.get' hr
  have hs := q.length
  simp only [Array.length_toList] at hs
  refine ⟨⟨_, _, hl.typeIs, slot_list_getitem.lookup⟩, wpAny_getItem_list_neg hl hi (by omega) (by omega) (x := x) ?_ ⟨.refl _, A⟩⟩
  rw [hs, hj]; simpa using hx⟩
theorem seqIndex_nat {j n : Nat} (h : j < n) : seqIndex? (j : Int) n = some j := by
  have hn : ¬ ((j : Int) < 0) := by omega
  simp [seqIndex?, hn]; omega
theorem it_tup {ds : List D} {i : Int} {j : Nat} {r : D} (hj : i = j) (hr : ds[j]? = some r) (hz : ds.length < 2 ^ 40) : It b0 c T (.tup ds) i r := ⟨fun s v t h => by
  obtain ⟨a, us, rfl, _, hl, q⟩ := h.isTup vw_le
  obtain ⟨x, hx, A⟩ := q.get' hr
  have hs := q.length
  simp only [Array.length_toList] at hs
  have hjl : j < ds.length := by
    rcases Nat.lt_or_ge j ds.length with h | h
    · exact h
    · (first | exact clash (List.getElem?_eq_none h) hr | exact none1 (List.getElem?_eq_none h) hr | obtain rfl := one1 (List.getElem?_eq_none h) hr | (rw [List.getElem?_eq_none h] at hr; cases hr))
  have hx' : us[j]? = some x := by simpa using hx
  refine ⟨⟨_, _, hl.typeIs, slot_tuple_getitem.lookup⟩, ?_⟩
  obtain ⟨⟨cls, dd, data, sl⟩, ho, hc, n, hd⟩ := hl
  simp only at hc hd
  subst hc hd
  exact PyProof.Rows.getItem_tuple ⟨_, ho, rfl, _, rfl⟩ (by omega) (by omega) (j := j) (by
      subst hj
      exact seqIndex_nat (by omega)) hx' ⟨.refl _, A⟩⟩
theorem it_bytes {b : Array UInt8} {i : Int} {j : Nat} {r : UInt8} (hj : i = j) (hr : b[j]? = some r) (hz : b.size < 2 ^ 40) : It b0 c T (.bytes b) i (.int r.toNat) := ⟨fun s v t h => by
  cases h with
  | bytes _ tk =>
    refine ⟨⟨_, _, typeIs_bytes _ _ _, FB.slot_bytes_getitem.lookup⟩, ?_⟩
    obtain ⟨l⟩ := b
    have hr' : l[j]? = some r := by simpa using hr
    have hl : j < l.length := by
      rcases Nat.lt_or_ge j l.length with h | h
      · exact h
      · (first | exact clash (List.getElem?_eq_none h) hr' | exact none1 (List.getElem?_eq_none h) hr' | obtain rfl := one1 (List.getElem?_eq_none h) hr' | (rw [List.getElem?_eq_none h] at hr'; cases hr'))
    refine getItem_bytes (by simpa using Nat.le_of_lt hz) (by omega) (by omega) ⟨.tok _ _, ?_⟩
    have : l.getD i.toNat 0 = r := by subst hj; simp [hr']
    rw [this]; exact .int _ _⟩
theorem it_str {x : Str} {i : Int} {j : Nat} {n : Nat} (hj : i = j) (hr : x.cps[j]? = some n) (hz : x.length < 2 ^ 40) : It b0 c T (.str x) i (.str ⟨#[n]⟩) := ⟨fun s v t h => by
  cases h with
  | str _ tk =>
    have hl : j < x.cps.size := by
      rcases Nat.lt_or_ge j x.cps.size with h | h
      · exact h
      · (first | exact clash (Array.getElem?_eq_none h) hr | exact none1 (Array.getElem?_eq_none h) hr | obtain rfl := one1 (Array.getElem?_eq_none h) hr | (rw [Array.getElem?_eq_none h] at hr; cases hr))
    have hz' : x.cps.size < 2 ^ 40 := hz
    have hl' : j < x.length := hl
    refine ⟨⟨_, _, typeIs_str _ _ _, F.slot_str_getitem.lookup⟩, P.getItem_str (c := n) (by rw [Bool.or_eq_false_iff, decide_eq_false_iff_not, decide_eq_false_iff_not]; omega) ?_ ⟨.tok _ _, .str _ _⟩⟩
    subst hj
    rw [seqIndex_nat hl']; exact hr⟩

theorem ev_item {o ix : Expr} {pos : Pos} {od r : D} {i : Int} (ho : Ev b0 c S o od) (hi : Ev b0 c S ix (.int i)) (h : It b0 c S.T od i r) (hs : ∀ o i, subscripted ix false o i = operate [o, i] (getItem o i) := by intro _ _; rfl) : Ev b0 c S (.Subscript o ix pos) r := ⟨fun s F =>
  Subscript_ (ho.use F fun v s₁ e₁ F₁ A₁ => hi.use F₁ fun u s₂ e₂ F₂ A₂ => by
    cases A₂ with
    | int _ t =>
      obtain ⟨⟨ty, id, hT, hl⟩, q⟩ := h.go s₂ v t (A₁.mono (vw_sub F₁.tab e₂.grow))
      exact tail_any hT hl (wpAny_mono q (fun x s₃ q => ⟨(e₁.trans e₂).trans q.1, q.2⟩) fun _ _ x => x.elim) (hs _ _))⟩

/-- slices -/
inductive Pt (b0 : Nat) (c : Cx) (S : St) : Option Expr → Option Int → Prop
  | none : Pt b0 c S none none
  | some {e : Expr} {i : Int} : Ev b0 c S e (.int i) → Pt b0 c S (some e) (some i)
theorem Pt.use {e : Option Expr} {i : Option Int} (h : Pt b0 c S e i) {s : Shared} {Q : Value → Shared → Prop} {E : Value → Shared → Prop} (F : FS b0 c.w c.env S s.heap) (k : ∀ v s', Ext b0 s s' → FS b0 c.w c.env S s'.heap → IsPart v i → Q v s') :
    wpAny (model c.prog c.w) c.A (evalPart e c.env) Q E s := by
  cases h with
  | none => rw [evalPart_none]; exact wpAny_pure (k _ _ (.refl _) F .none)
  | some h => rw [evalPart_some]; exact h.use F fun v s₁ e₁ F₁ A₁ => by cases A₁; exact k _ _ e₁ F₁ (.int _ _)
structure Sl (b0 : Nat) (c : Cx) (T : List Addr) (o : D) (lo hi : Option Int) (r : D) : Prop where
  go : ∀ (s : Shared) (v l u : Value) (a : Addr), Wd b0 c.w s.heap → (∀ x ∈ T, ∃ o, s.heap.get? x = some o) → DAt (vw T s.heap) v o → IsPart l lo → IsPart u hi → s.heap.IsSliceOf a l u .none →
    (∃ ty id, s.TypeIs v ty ∧ typeLookup (.type ty) "__getitem__" = pure (some (.builtin id))) ∧ wpAny (model c.prog c.w) c.A (getItem v (.ref a)) (fun x s' => Ext b0 s s' ∧ DAt (vw T s'.heap) x r) NoE s
theorem ev_slice {o : Expr} {lo hi : Option Expr} {pos sp : Pos} {od r : D} {i j : Option Int} (ho : Ev b0 c S o od) (hl : Pt b0 c S lo i) (hh : Pt b0 c S hi j) (h : Sl b0 c S.T od i j r) : Ev b0 c S (.Subscript o (.Slice lo hi none sp) pos) r := ⟨fun s F =>
  Subscript_ (ho.use F fun v s₁ e₁ F₁ A₁ => wpAny_Slice (hl.use F₁ fun l s₂ e₂ F₂ p₂ => hh.use F₂ fun u s₃ e₃ F₃ p₃ => by
    rw [evalPart_none]
    refine wpAny_pure ?_
    have e4 : Ext b0 s₃ { s₃ with heap := s₃.heap.push { cls := .type "slice", data := .fields #[l, u, .none] } } := .push _
    have F₄ := F₃.ext e4
    obtain ⟨⟨ty, id, hT, hlk⟩, q⟩ := h.go { s₃ with heap := s₃.heap.push { cls := .type "slice", data := .fields #[l, u, .none] } } v l u s₃.heap.objs.size F₄.wd F₄.hid (((A₁.mono (vw_sub F₁.tab e₂.grow)).mono (vw_sub F₂.tab e₃.grow)).mono (vw_sub F₃.tab e4.grow)) p₂ p₃ ⟨_, Heap.get?_push_size _ rfl, rfl, rfl⟩
    exact tail_any hT hlk (wpAny_mono q (fun x s₅ q => ⟨((e₁.trans e₂).trans e₃).trans (e4.trans q.1), q.2⟩) fun _ _ x => x.elim) rfl))⟩
/-- what a slice takes -/
def cut {α : Type} (l : List α) (lo hi : Option Int) : List α := (l.drop (lo.elim 0 (clipAt l.length))).take (hi.elim l.length (clipAt l.length) - lo.elim 0 (clipAt l.length))
theorem sl_list {ds : List D} {lo hi : Option Int} (hz : ds.length ≤ 100000) : Sl b0 c T (.list ds) lo hi (.list (cut ds lo hi)) := ⟨fun s v l u a W hT h p q hs => by
  obtain ⟨b, us, rfl, _, hl, r⟩ := h.isList vw_le
  have hlen := r.length
  simp only [Array.length_toList] at hlen
  refine ⟨⟨_, _, hl.typeIs, slot_list_getitem.lookup⟩, wpAny_getItem_list_slice hl hs p q .none (by simp) ⟨Ext.push _, DAt.pushList W.tab hT ?_⟩ (by rw [hlen]; exact Nat.le_trans hz (by decide))⟩
  rw [slicePick_plain]
  have := (r.drop (lo.elim 0 (clipAt ds.length))).take (hi.elim ds.length (clipAt ds.length) - lo.elim 0 (clipAt ds.length))
  rw [hlen]
  exact this⟩
theorem sl_bytes {b : Array UInt8} {lo hi : Option Int} (hz : b.size ≤ 100000) : Sl b0 c T (.bytes b) lo hi (.bytes (cut b.toList lo hi).toArray) := ⟨fun s v l u a W hT h p q hs => by
  cases h with
  | bytes _ tk =>
    have e : KBy.picked b lo hi = (cut b.toList lo hi).toArray := by rw [KBc.picked_eq]; rfl
    refine ⟨⟨_, _, typeIs_bytes _ _ _, FB.slot_bytes_getitem.lookup⟩, getItem_meets (typeIs_bytes _ _ _) (by decide) FB.slot_bytes_getitem FB.entry_bytes_getitem (FB.args_bytes_getitem_2 _ _) (KBc.meets_slice2 b tk a p q) ⟨hs, ?_, fun t' k => ⟨.tok _ _, ?_⟩⟩⟩
    · rw [e]
      have : (cut b.toList lo hi).length ≤ b.toList.length := by unfold cut; simp; omega
      simp only [List.size_toArray]
      have h2 : (100000 : Nat) ≤ sizeLine := by decide
      simp at this
      omega
    · rw [e]; exact .bytes _ _⟩
end
end Mine
/- part B14 -/
namespace Mine
open PySem PySem.W PySem.Calls PyProof.Rows
variable {b0 : Nat}

section
variable {c : Cx} {S : St} {T : List Addr} {o : Out} {rest : List Stmt} {ks : List (List Stmt)}

theorem str_upto (x : Str) (j : Nat) : Txt.slice x none (some (j : Int)) = ⟨(x.cps.toList.take j).toArray⟩ := by
  have e : Builtin.Str.strSliceIndices none (some (j : Int)) 1 x.length = Builtin.Str.strSliceIndices (some ((0 : Nat) : Int)) (some ((min j x.length : Nat) : Int)) 1 x.length := by
    unfold Builtin.Str.strSliceIndices
    have h1 : ¬ ((j : Int) < 0) := by omega
    have h2 : ¬ (((min j x.length : Nat) : Int) < 0) := by omega
    have h3 : ¬ (((0 : Nat) : Int) < 0) := by omega
    simp only [h1, h2, h3, if_false, show (1 : Int) > 0 by decide, if_true]
    congr 1 <;> omega
  have hlen : x.length = x.cps.toList.length := by simp [Str.length]
  unfold Txt.slice
  rw [e, StrLaws.strSliceIndices_plain (Nat.zero_le _) (Nat.min_le_right _ _)]
  split
  · rename_i h
    simp only [Nat.sub_zero, List.length_map, List.length_range, Bool.and_eq_true, beq_iff_eq] at h
    have hj : x.cps.toList.length ≤ j := by omega
    rw [List.take_of_length_le hj]
  · have := StrLaws_sliced x j
    simp only [this]
where
  StrLaws_sliced (x : Str) (j : Nat) : (((List.range (min j x.length - 0)).map (fun k => 0 + k)).filterMap (x.cps[·]?)) = x.cps.toList.take j := by
    rw [pick_run, List.drop_zero, Nat.sub_zero]
    have hlen : x.length = x.cps.toList.length := by simp [Str.length]
    rcases Nat.le_total j x.length with h | h
    · rw [Nat.min_eq_left h]
    · rw [Nat.min_eq_right h, hlen, List.take_length, List.take_of_length_le (by omega)]

theorem sl_str_upto {x : Str} {j : Nat} (hz : x.length ≤ 100000) : Sl b0 c T (.str x) none (some (j : Int)) (.str ⟨(x.cps.toList.take j).toArray⟩) := ⟨fun s v l u a W hT h p q hs => by
  cases h with
  | str _ tk =>
    cases p
    cases q with
    | int _ tj =>
      refine ⟨⟨_, _, typeIs_str _ _ _, F.slot_str_getitem.lookup⟩, wpAny_getItem_str_slice (l := none) (u := some ((j : Int), tj)) (st := none) hs rfl (post_val_or_str ⟨Nat.le_trans (Txt.slice_le x none (some (j : Int))) (Nat.le_trans hz (by decide)), fun t' k => ⟨.tok _ _, ?_⟩⟩)⟩
      show DAt _ (.str (Txt.slice x none (some (j : Int))) t') _
      rw [str_upto]; exact .str _ _⟩
/-- a sign laid again and again -/
theorem bin_str_mul {x : Str} {n : Int} (h : MulOk x n) : Bin b0 c T .Mult (.str x) (.int n) (.str (Txt.mul x n)) := ⟨fun s u v _ _ hu hv => by cases hu; cases hv; exact SB.mul h fun t' k => ⟨.tok _ _, .str _ _⟩⟩

theorem tst_chain {l r₁ r₂ : Expr} {op₁ op₂ : CmpOp} {pos : Pos} {a b d : D} {x y : Bool} (hl : Ev b0 c S l a) (h1 : Ev b0 c S r₁ b) (h2 : Ev b0 c S r₂ d) (k1 : Cmp b0 c S.T op₁ a b x) (k2 : Cmp b0 c S.T op₂ b d y) (hm : lastMarks [op₁, op₂] [r₁, r₂] = false := by with_unfolding_all rfl) :
    Tst b0 c S (.Compare l [op₁, op₂] [r₁, r₂] pos) (x && y) := ⟨fun s F =>
  isTrue_chain (hl.use F fun u s₁ e₁ F₁ A₁ => test_link (h1.use F₁ fun v s₂ e₂ F₂ A₂ => wpAny_mono (k1.go s₂ u v F₂.wd F₂.hid (A₁.mono (vw_sub F₁.tab e₂.grow)) A₂) (fun _ s₃ q => by
    obtain ⟨e₃, rfl⟩ := q
    refine wpAny_truthy_bool ?_
    cases x with
    | false => exact ⟨(e₁.trans e₂).trans e₃, rfl⟩
    | true =>
      have F₃ := F₂.ext e₃
      exact test_last (h2.use F₃ fun z s₄ e₄ F₄ A₄ => wpAny_mono (k2.go s₄ v z F₄.wd F₄.hid (A₂.mono (vw_sub F₂.tab (e₃.trans e₄).grow)) A₄) (fun _ s₅ q => by
        obtain ⟨e₅, rfl⟩ := q
        exact wpAny_truthy_bool ⟨((e₁.trans e₂).trans e₃).trans (e₄.trans e₅), rfl⟩) fun _ _ z => z.elim)) fun _ _ z => z.elim)) hm⟩

theorem cmp_is_ty {a b : String} : Cmp b0 c T .Is (.val (.type a)) (.val (.type b)) (Value.type a == Value.type b) := ⟨fun s u v _ _ hu hv => by
  cases hu; cases hv; exact wpAny_is_plain rfl ⟨.refl _, rfl⟩⟩
theorem cmp_is_none {b : Bool} : Cmp b0 c T .Is (.bool b) .none false := ⟨fun s u v _ _ hu hv => by
  cases hu; cases hv; exact wpAny_is_plain rfl ⟨.refl _, by cases b <;> rfl⟩⟩
theorem cmp_isNot_none : Cmp b0 c T .IsNot .none .none false := ⟨fun s u v _ _ hu hv => by
  cases hu; cases hv; exact wpAny_isNot_self rfl ⟨.refl _, rfl⟩⟩

theorem cmp_ne_bytes {a b : Array UInt8} : Cmp b0 c T .NotEq (.bytes a) (.bytes b) (a.toList != b.toList) := ⟨fun s u v _ _ hu hv => by
  cases hu; cases hv; exact ne_bytes ⟨.refl _, rfl⟩⟩
theorem cmp_ne_int {a b : Int} : Cmp b0 c T .NotEq (.int a) (.int b) (!(a == b)) := ⟨fun s u v _ _ hu hv => by
  cases hu; cases hv; exact SeqAt.RcNeAt.int_int _ _ _ _ _ _ _ _ ⟨.refl _, rfl⟩⟩
theorem cmp_in_ints {i : Int} {ns : List Int} : Cmp b0 c T .In (.int i) (.list (ns.map D.int)) (ns.any (· == i)) := ⟨fun s u v _ _ hu hv => by
  cases hu with
  | int _ t =>
    obtain ⟨a, us, rfl, _, hl, r⟩ := hv.isList vw_le
    have hi := ints_of r
    refine SeqAt.in_listAt (e := fun y => match y with | .int k _ => k == i | _ => false) hl (fun y hy => ?_) ⟨.refl _, ?_⟩
    · have : ∀ {vs ns}, IntsAre vs ns → y ∈ vs → ∃ k t, y = .int k t := by
        intro vs ns h
        induction h with
        | nil => intro q; cases q
        | cons n t _ ih => intro q; rcases List.mem_cons.mp q with rfl | q
                           · exact ⟨_, _, rfl⟩
                           · exact ih q
      obtain ⟨k, t', rfl⟩ := this hi (by simpa using hy)
      exact SeqAt.EqAt.int_int _ _ _ _
    · congr 1
      rw [← Array.any_toList]
      generalize us.toList = vs at hi
      clear hl hv r
      induction hi with
      | nil => rfl
      | cons n t _ ih => simp only [List.any_cons, ih]⟩

/-- equal data -/
def D.depth : D → Nat
  | .list ds => depths ds + 1
  | .tup ds => depths ds + 1
  | _ => 0
where depths : List D → Nat
  | [] => 0
  | d :: ds => max d.depth (depths ds)
def D.plain : D → Bool
  | .list ds => plains ds
  | .tup ds => plains ds
  | .val _ => false
  | _ => true
where plains : List D → Bool
  | [] => true
  | d :: ds => d.plain && plains ds
theorem depths_mem {d : D} : ∀ {ds : List D}, d ∈ ds → d.depth ≤ D.depth.depths ds
  | e :: ds, h => by
    unfold D.depth.depths
    rcases List.mem_cons.mp h with rfl | h
    · exact Nat.le_max_left _ _
    · exact Nat.le_trans (depths_mem h) (Nat.le_max_right _ _)
theorem plains_mem {d : D} : ∀ {ds : List D}, d ∈ ds → D.plain.plains ds = true → d.plain = true
  | e :: ds, h, q => by
    unfold D.plain.plains at q
    rw [Bool.and_eq_true] at q
    rcases List.mem_cons.mp h with rfl | h
    · exact q.1
    · exact plains_mem h q.2
theorem eq_at {g : Vw} : ∀ (n : Nat) (d : D) (A : Around) (s : Shared) (u v : Value), Sub g s.heap.get? → d.depth ≤ n → d.plain = true → A.units + 2 * n < 9900 → DAt g u d → DAt g v d → SeqAt.EqAt A s u v true := by
  intro n
  induction n with
  | zero =>
    intro d A s u v hs hd hp hA hu hv
    cases hu with
    | none => cases hv; exact .same _
    | bool b => cases hv; exact .same _
    | int i t => cases hv with | int _ t' => have := SeqAt.EqAt.int_int (A := A) (s := s) i t i t'; rwa [beq_self_eq_true] at this
    | str x t => cases hv with | str _ t' => have := SeqAt.EqAt.str_str (A := A) (s := s) x t x t'; rwa [beq_self_eq_true] at this
    | bytes x t => cases hv with | bytes _ t' => exact fun prog w E Q h => eqBool_bytes (by simpa using h)
    | list => unfold D.depth at hd; omega
    | tup => unfold D.depth at hd; omega
    | val => cases hp
  | succ n ih =>
    intro d A s u v hs hd hp hA hu hv
    have hu0 := hu
    cases hu with
    | none => cases hv; exact .same _
    | bool b => cases hv; exact .same _
    | int i t => cases hv with | int _ t' => have := SeqAt.EqAt.int_int (A := A) (s := s) i t i t'; rwa [beq_self_eq_true] at this
    | str x t => cases hv with | str _ t' => have := SeqAt.EqAt.str_str (A := A) (s := s) x t x t'; rwa [beq_self_eq_true] at this
    | bytes x t => cases hv with | bytes _ t' => exact fun prog w E Q h => eqBool_bytes (by simpa using h)
    | val => cases hp
    | list =>
      rename_i ds _ _ _ _
      obtain ⟨a, us, e1, _, hl, r⟩ := hu0.isList hs
      obtain ⟨b, ws, rfl, _, hb, q⟩ := hv.isList hs
      rw [e1]
      by_cases hab : a = b
      · subst hab; exact .same _
      refine .of_refs hab ?_
      have l1 := r.length
      have l2 := q.length
      simp only [Array.length_toList] at l1 l2
      have := SeqAt.RcAt.lists (A := A) (e := fun _ => true) hl hb (by omega) (show A.units < 9900 by omega) fun j h1 h2 => by
        obtain ⟨d, hd', Ad⟩ := r.get (i := j) (v := us[j]) (by simp [h1])
        obtain ⟨d', hd'', Ad'⟩ := q.get (i := j) (v := ws[j]) (by simp [h2])
        (first | exact clash hd' hd'' | exact none1 hd' hd'' | obtain rfl := one1 hd' hd'' | (rw [hd'] at hd''; cases hd''))
        have hm := List.mem_of_getElem? hd'
        exact ih d A.in1 s _ _ hs (by have := depths_mem hm; unfold D.depth at hd; omega) (plains_mem hm hp) (by show A.units + 1 + 2 * n < 9900; omega) Ad Ad'
      have hall : (List.range us.size).all (fun _ => true) = true := by simp
      rwa [hall] at this
    | tup =>
      rename_i ds _ _ _ _
      obtain ⟨a, us, e1, _, hl, r⟩ := hu0.isTup hs
      obtain ⟨b, ws, rfl, _, hb, q⟩ := hv.isTup hs
      rw [e1]
      by_cases hab : a = b
      · subst hab; exact .same _
      refine .of_refs hab ?_
      have l1 := r.length
      have l2 := q.length
      simp only [Array.length_toList] at l1 l2
      have := SeqAt.RcAt.tuples (A := A) (e := fun _ => true) hl hb (show A.units < 9900 by omega) fun j h1 h2 => by
        obtain ⟨d, hd', Ad⟩ := r.get (i := j) (v := us[j]) (by simp [h1])
        obtain ⟨d', hd'', Ad'⟩ := q.get (i := j) (v := ws[j]) (by simp [h2])
        (first | exact clash hd' hd'' | exact none1 hd' hd'' | obtain rfl := one1 hd' hd'' | (rw [hd'] at hd''; cases hd''))
        have hm := List.mem_of_getElem? hd'
        exact ih d A.in1 s _ _ hs (by have := depths_mem hm; unfold D.depth at hd; omega) (plains_mem hm hp) (by show A.units + 1 + 2 * n < 9900; omega) Ad Ad'
      have hall : ((List.range (min us.size ws.size)).all (fun _ => true) && us.size == ws.size) = true := by
        rw [l1, l2]; simp
      rwa [hall] at this
theorem cmp_eq_list {ds : List D} (hp : (D.list ds).plain = true) (hd : (D.list ds).depth ≤ 10) (hu : c.A.units ≤ 9000) : Cmp b0 c T .Eq (.list ds) (.list ds) true := ⟨fun s u v W hT hu' hv => by
  obtain ⟨a, us, rfl, _, hl, r⟩ := hu'.isList vw_le
  obtain ⟨b, ws, rfl, _, hb, q⟩ := hv.isList vw_le
  have l1 := r.length
  have l2 := q.length
  simp only [Array.length_toList] at l1 l2
  refine SeqAt.eq_listAt (e := fun _ => true) hl hb (by omega) (show c.A.units < 9900 by omega) (fun j h1 h2 => ?_) ⟨.refl _, by simp⟩
  obtain ⟨d, hd', Ad⟩ := r.get (i := j) (v := us[j]) (by simp [h1])
  obtain ⟨d', hd'', Ad'⟩ := q.get (i := j) (v := ws[j]) (by simp [h2])
  (first | exact clash hd' hd'' | exact none1 hd' hd'' | obtain rfl := one1 hd' hd'' | (rw [hd'] at hd''; cases hd''))
  have hm := List.mem_of_getElem? hd'
  exact eq_at 10 d c.A.in1 s _ _ vw_le (by have := depths_mem hm; unfold D.depth at hd; omega) (plains_mem hm hp) (by show c.A.units + 1 + 2 * 10 < 9900; omega) Ad Ad'⟩
theorem cmp_ne_list {ds : List D} (hp : (D.list ds).plain = true) (hd : (D.list ds).depth ≤ 10) (hu : c.A.units ≤ 9000) : Cmp b0 c T .NotEq (.list ds) (.list ds) false := ⟨fun s u v W hT hu' hv => by
  obtain ⟨a, us, rfl, _, hl, r⟩ := hu'.isList vw_le
  obtain ⟨b, ws, rfl, _, hb, q⟩ := hv.isList vw_le
  have l1 := r.length
  have l2 := q.length
  simp only [Array.length_toList] at l1 l2
  have := SeqAt.RcNeAt.lists (A := c.A) (e := fun _ => true) hl hb (by omega) (show c.A.units < 9900 by omega) (fun j h1 h2 => by
    obtain ⟨d, hd', Ad⟩ := r.get (i := j) (v := us[j]) (by simp [h1])
    obtain ⟨d', hd'', Ad'⟩ := q.get (i := j) (v := ws[j]) (by simp [h2])
    (first | exact clash hd' hd'' | exact none1 hd' hd'' | obtain rfl := one1 hd' hd'' | (rw [hd'] at hd''; cases hd''))
    have hm := List.mem_of_getElem? hd'
    exact eq_at 10 d c.A.in1 s _ _ vw_le (by have := depths_mem hm; unfold D.depth at hd; omega) (plains_mem hm hp) (by show c.A.units + 1 + 2 * 10 < 9900; omega) Ad Ad')
  exact this c.prog c.w NoE _ ⟨.refl _, by simp⟩⟩

/-- a pair taken apart -/
theorem run_pair (H : EnvOk c.env) (hh : c.A.handled = none) {x y : Str} {p q tp pos : Pos} {k : Nat} {e : Expr} {d₁ d₂ : D} (he : Ev b0 c S e (.tup [d₁, d₂])) (hx : c.env.kindOf x = some .local) (hy : c.env.kindOf y = some .local) (ox : OwnNot S x) (oy : OwnNot S y)
    (h : Run b0 c ((S.set x d₁).set y d₂) rest ks o) (hs : swapsWithSole [.Tuple [.Name x p, .Name y q] k tp] e pos.line c.env = pure false := by rfl) (hw : swappedStores [.Tuple [.Name x p, .Name y q] k tp] e c.env = pure none := by rfl) :
    Run b0 c S (.Assign [.Tuple [.Name x p, .Name y q] k tp] e pos :: rest) ks o := run_cons fun s F =>
  PyProof.Rows.Assign_Tuple (he.use F fun v s₁ e₁ F₁ A₁ => by
    obtain ⟨a, us, rfl, _, hl, r⟩ := A₁.isTup vw_le
    have hsz := r.length
    simp only [Array.length_toList, List.length_cons, List.length_nil] at hsz
    have hu : ∃ u₁ u₂, us.toList = [u₁, u₂] := by
      obtain ⟨l⟩ := us
      match l, hsz with
      | [u₁, u₂], _ => exact ⟨u₁, u₂, rfl⟩
    obtain ⟨u₁, u₂, hu⟩ := hu
    rw [hu] at r
    obtain ⟨B₁, B₂⟩ : DAt (vw S.T s₁.heap) u₁ d₁ ∧ DAt (vw S.T s₁.heap) u₂ d₂ := by
      cases r with | cons h1 h2 => cases h2 with | cons h2 _ => exact ⟨h1, h2⟩
    refine wpAny_assign_Tuple hh hl (by show 2 = us.size; omega) rfl fun h' hb => ?_
    have e2 : Ext b0 s₁ { s₁ with heap := h' } := .of fun b o e => hb b o (fun q => by (first | exact none2 q fresh_none e | obtain rfl := one2 q fresh_none e | (rw [q, fresh_none] at e; cases e))) e
    have F₂ := F₁.ext e2
    rw [hu]
    refine wpAny_assignInOrder_more (wpAny_assign_Name (wpAny_mono (FS.store (s := { s₁ with heap := h' }) H F₂ (.data (B₁.mono (vw_sub F₁.tab e2.grow)) ox) (.inl hx)) (fun _ s₃ q₃ => ?_) fun _ _ z => z.elim))
    obtain ⟨hs₃, F₃, hnf, _⟩ := q₃
    have vs3 : Sub (vw S.T h') (vw S.T s₃.heap) := fun b ob e hc hd => by
      unfold vw at e ⊢
      split at e
      · cases e
      · rename_i hb
        rw [if_neg hb]
        obtain ⟨vs, n, hd⟩ := hd
        exact hnf _ _ e (fun es ep q => by (first | exact clash hd q | exact none1 hd q | obtain rfl := one1 hd q | (rw [hd] at q; cases q))) fun v q => by (first | exact clash hd q | exact none1 hd q | obtain rfl := one1 hd q | (rw [hd] at q; cases q))
    refine wpAny_assignInOrder_more (wpAny_assign_Name (wpAny_mono (FS.store H F₃ (.data ((B₂.mono (vw_sub F₁.tab e2.grow)).mono vs3) oy) (.inl hy)) (fun _ s₄ q₄ => ?_) fun _ _ z => z.elim))
    exact wpAny_assignInOrder_none ⟨((e₁.same.trans e2.same).trans hs₃).trans q₄.1, (S.set x d₁).set y d₂, ⟨rfl, rfl⟩, q₄.2.1, h⟩) hs hw
end
end Mine
/- part B15 -/
namespace Mine
open PySem PySem.W PySem.Calls PyProof.Rows
variable {b0 : Nat}

def b64v (c : Int) : Int := if decide (65 ≤ c) && decide (c ≤ 90) then c - 65 else if decide (97 ≤ c) && decide (c ≤ 122) then c - 71 else if decide (48 ≤ c) && decide (c ≤ 57) then c + 4 else if c == 43 then 62 else if c == 47 then 63 else 64

theorem fn_b64_value {prog : Program} {w : World} {i : Int} : Fn b0 prog w 1 91 [.int i] [] (.int (b64v i)) := by
  refine fn_of (k := 0) ["c"] [] (hK := rfl) (by kernel_rfl) rfl rfl rfl rfl rfl rfl rfl (by kernel_rfl) (by decide) [("c", .int i)] rfl (bind_plain (fun vs h => by
    match vs, h with
    | [v], _ => rfl) rfl) fun A L h₀ T R H => ?_
  unfold b64v
  refine run_if (tst_chain ev_int (ev_name H lk_here) ev_int cmp_le cmp_le) (fun h => ?_) fun h => ?_
  · rw [h]; exact run_ret (ev_bin (ev_name H lk_here) ev_int bin_sub)
  rw [h]
  refine run_pop (run_if (tst_chain ev_int (ev_name H lk_here) ev_int cmp_le cmp_le) (fun h => ?_) fun h => ?_)
  · rw [h]; exact run_ret (ev_bin (ev_name H lk_here) ev_int bin_sub)
  rw [h]
  refine run_pop (run_if (tst_chain ev_int (ev_name H lk_here) ev_int cmp_le cmp_le) (fun h => ?_) fun h => ?_)
  · rw [h]; exact run_ret (ev_bin (ev_name H lk_here) ev_int bin_add)
  rw [h]
  refine run_pop (run_if (tst_cmp (ev_name H lk_here) ev_int cmp_eq) (fun h => ?_) fun h => ?_)
  · rw [h]; exact run_ret ev_int
  rw [h]
  refine run_pop (run_if (tst_cmp (ev_name H lk_here) ev_int cmp_eq) (fun h => ?_) fun h => ?_)
  · rw [h]; exact run_ret ev_int
  rw [h]
  exact run_pop (run_ret ev_int)
end Mine
/- part L2 -/
namespace Mine
open PySem PySem.W PySem.Calls PyProof.Rows
abbrev AS := Nat × Nat × Nat × List Nat
def b64n (c : Nat) : Nat := (b64v c).toNat
theorem b64n_eq (c : Nat) : b64v c = (b64n c : Int) := by
  have : 0 ≤ b64v (c : Int) := by unfold b64v; split <;> (try split) <;> (try split) <;> (try split) <;> (try split) <;> simp_all <;> omega
  unfold b64n; omega
theorem b64n_tbl : ∀ n, n < 64 → b64n (tblN n) = n ∧ tblN n ≠ 61 := by decide +kernel
/-- the reader's turn -/
def astep (s : AS) (ch : Nat) : AS :=
  if ch = 61 then (s.1, s.2.1, s.2.2.1 + 1, s.2.2.2)
  else if 64 ≤ b64n ch then s
  else if s.1 = 0 then (1, b64n ch, 0, s.2.2.2)
  else if s.1 = 1 then (2, b64n ch % 16, 0, s.2.2.2 ++ [s.2.1 * 4 + b64n ch / 16])
  else if s.1 = 2 then (3, b64n ch % 4, 0, s.2.2.2 ++ [s.2.1 * 16 + b64n ch / 4])
  else (0, 0, 0, s.2.2.2 ++ [s.2.1 * 64 + b64n ch])
def AOk (s : AS) : Prop := s.1 < 4 ∧ (s.1 = 1 → s.2.1 < 64) ∧ (s.1 = 2 → s.2.1 < 16) ∧ (s.1 = 3 → s.2.1 < 4) ∧ ∀ n ∈ s.2.2.2, n < 256
theorem AOk.step {s : AS} (h : AOk s) (ch : Nat) : AOk (astep s ch) := by
  obtain ⟨q, lc, pads, out⟩ := s
  obtain ⟨h1, h2, h3, h4, h5⟩ := h
  simp only at h1 h2 h3 h4 h5
  unfold astep
  simp only
  by_cases c1 : ch = 61
  · rw [if_pos c1]; exact ⟨h1, h2, h3, h4, h5⟩
  rw [if_neg c1]
  by_cases c2 : 64 ≤ b64n ch
  · rw [if_pos c2]; exact ⟨h1, h2, h3, h4, h5⟩
  rw [if_neg c2]
  have snoc : ∀ m, m < 256 → ∀ n ∈ out ++ [m], n < 256 := fun m hm n hn => by
    rcases List.mem_append.mp hn with hn | hn
    · exact h5 n hn
    · rw [List.mem_singleton.mp hn]; exact hm
  by_cases c3 : q = 0
  · rw [if_pos c3]; exact ⟨by show 1 < 4; omega, (fun _ => by show b64n ch < 64; omega), (fun e => by cases e), (fun e => by cases e), h5⟩
  rw [if_neg c3]
  by_cases c4 : q = 1
  · rw [if_pos c4]; exact ⟨by show 2 < 4; omega, (fun e => by cases e), (fun _ => by show b64n ch % 16 < 16; omega), (fun e => by cases e), snoc _ (by have := h2 c4; omega)⟩
  rw [if_neg c4]
  by_cases c5 : q = 2
  · rw [if_pos c5]; exact ⟨by show 3 < 4; omega, (fun e => by cases e), (fun e => by cases e), (fun _ => by show b64n ch % 4 < 4; omega), snoc _ (by have := h3 c5; omega)⟩
  rw [if_neg c5]
  have hq : q = 3 := by omega
  exact ⟨by show 0 < 4; omega, (fun e => by cases e), (fun e => by cases e), (fun e => by cases e), snoc _ (by have := h4 hq; omega)⟩
theorem AOk.fold : ∀ (l : List Nat) (s : AS), AOk s → AOk (l.foldl astep s)
  | [], s, h => h
  | c :: l, s, h => AOk.fold l _ (h.step c)
theorem AOk.zero : AOk (0, 0, 0, []) := ⟨by decide, by decide, by decide, by decide, by simp⟩
theorem alen : ∀ (l : List Nat) (s : AS), (l.foldl astep s).2.2.2.length ≤ s.2.2.2.length + l.length
  | [], s => by simp
  | c :: l, s => by
    have := alen l (astep s c)
    rw [List.foldl_cons, List.length_cons]
    have h2 : (astep s c).2.2.2.length ≤ s.2.2.2.length + 1 := by
      unfold astep
      split
      · simp
      split
      · simp
      split
      · simp
      split
      · simp
      split <;> simp
    omega
theorem as0 {n : Nat} (h : n < 64) (lc p : Nat) (out : List Nat) : astep (0, lc, p, out) (tblN n) = (1, n, 0, out) := by
  obtain ⟨h1, h2⟩ := b64n_tbl n h
  simp [astep, h1, h2, Nat.not_le.mpr h]
theorem as1 {n : Nat} (h : n < 64) (lc p : Nat) (out : List Nat) : astep (1, lc, p, out) (tblN n) = (2, n % 16, 0, out ++ [lc * 4 + n / 16]) := by
  obtain ⟨h1, h2⟩ := b64n_tbl n h
  simp [astep, h1, h2, Nat.not_le.mpr h]
theorem as2 {n : Nat} (h : n < 64) (lc p : Nat) (out : List Nat) : astep (2, lc, p, out) (tblN n) = (3, n % 4, 0, out ++ [lc * 16 + n / 4]) := by
  obtain ⟨h1, h2⟩ := b64n_tbl n h
  simp [astep, h1, h2, Nat.not_le.mpr h]
theorem as3 {n : Nat} (h : n < 64) (lc p : Nat) (out : List Nat) : astep (3, lc, p, out) (tblN n) = (0, 0, 0, out ++ [lc * 64 + n]) := by
  obtain ⟨h1, h2⟩ := b64n_tbl n h
  simp [astep, h1, h2, Nat.not_le.mpr h]
theorem asP (q lc p : Nat) (out : List Nat) : astep (q, lc, p, out) 61 = (q, lc, p + 1, out) := by simp [astep]
theorem g1 {a : Nat} (h : a < 256) : a / 4 < 64 := Nat.div_lt_of_lt_mul h
theorem g2' : ∀ x, x < 4 → ∀ y, y < 16 → x * 16 + y < 64 := by decide +kernel
theorem g2 (a : Nat) {b : Nat} (h : b < 256) : a % 4 * 16 + b / 16 < 64 := g2' _ (Nat.mod_lt _ (by decide)) _ (Nat.div_lt_of_lt_mul h)
theorem g3' : ∀ x, x < 16 → ∀ y, y < 4 → x * 4 + y < 64 := by decide +kernel
theorem g3 (b : Nat) {c : Nat} (h : c < 256) : b % 16 * 4 + c / 64 < 64 := g3' _ (Nat.mod_lt _ (by decide)) _ (Nat.div_lt_of_lt_mul h)
theorem g4 (c : Nat) : c % 64 < 64 := Nat.mod_lt _ (by decide)
theorem e1' : ∀ a, a < 256 → ∀ y, y < 16 → a / 4 * 4 + (a % 4 * 16 + y) / 16 = a := by decide +kernel
theorem e1 {a b : Nat} (ha : a < 256) (hb : b < 256) : a / 4 * 4 + (a % 4 * 16 + b / 16) / 16 = a := e1' a ha _ (Nat.div_lt_of_lt_mul hb)
theorem e2' : ∀ b, b < 256 → ∀ x, x < 4 → ∀ z, z < 4 → (x * 16 + b / 16) % 16 * 16 + (b % 16 * 4 + z) / 4 = b := by decide +kernel
theorem e2 (a : Nat) {b c : Nat} (hb : b < 256) (hc : c < 256) : (a % 4 * 16 + b / 16) % 16 * 16 + (b % 16 * 4 + c / 64) / 4 = b := e2' b hb _ (Nat.mod_lt _ (by decide)) _ (Nat.div_lt_of_lt_mul hc)
theorem e3' : ∀ c, c < 256 → ∀ x, x < 16 → (x * 4 + c / 64) % 4 * 64 + c % 64 = c := by decide +kernel
theorem e3 (b : Nat) {c : Nat} (hc : c < 256) : (b % 16 * 4 + c / 64) % 4 * 64 + c % 64 = c := e3' c hc _ (Nat.mod_lt _ (by decide))
theorem e4 : ∀ a, a < 256 → a % 4 * 16 < 64 ∧ a % 4 * 16 % 16 = 0 ∧ a / 4 * 4 + a % 4 * 16 / 16 = a := by decide +kernel
theorem e5 : ∀ b, b < 256 → b % 16 * 4 < 64 ∧ b % 16 * 4 % 4 = 0 ∧ ∀ x, x < 4 → (x * 16 + b / 16) % 16 * 16 + b % 16 * 4 / 4 = b := by decide +kernel
theorem t128 : ∀ n, n < 64 → tblN n < 128 := by decide +kernel
theorem afold : ∀ (l : List Nat), (∀ x ∈ l, x < 256) → ∀ out, ∃ q lc p, (enc l).foldl astep (0, 0, 0, out) = (q, lc, p, out ++ l) ∧ q ≠ 1 ∧ (q = 0 ∨ 4 ≤ q + p)
  | [], _, out => ⟨0, 0, 0, by simp [enc], by decide, .inl rfl⟩
  | [a], h, out => by
    have ha := h a (.head _)
    refine ⟨2, 0, 2, ?_, by decide, .inr (by decide)⟩
    simp only [enc, List.foldl_cons, List.foldl_nil]
    rw [as0 (g1 ha), as1 (e4 a ha).1, asP, asP, (e4 a ha).2.1, (e4 a ha).2.2]
  | [a, b], h, out => by
    have ha := h a (.head _)
    have hb := h b (.tail _ (.head _))
    refine ⟨3, 0, 1, ?_, by decide, .inr (by decide)⟩
    simp only [enc, List.foldl_cons, List.foldl_nil]
    rw [as0 (g1 ha), as1 (g2 a hb), as2 (e5 b hb).1, asP, (e5 b hb).2.1, e1 ha hb, (e5 b hb).2.2 _ (Nat.mod_lt _ (by decide)), List.append_assoc]
    rfl
  | a :: b :: c :: r, h, out => by
    have ha := h a (.head _)
    have hb := h b (.tail _ (.head _))
    have hc := h c (.tail _ (.tail _ (.head _)))
    obtain ⟨q, lc, p, e, h1, h2⟩ := afold r (fun x hx => h x (.tail _ (.tail _ (.tail _ hx)))) (out ++ [a] ++ [b] ++ [c])
    refine ⟨q, lc, p, ?_, h1, h2⟩
    simp only [enc, List.foldl_cons]
    rw [as0 (g1 ha), as1 (g2 a hb), as2 (g3 b hc), as3 (g4 c), e1 ha hb, e2 a hb hc, e3 b hc, e]
    simp only [List.append_assoc, List.cons_append, List.nil_append]
theorem enc_lt : ∀ (l : List Nat), (∀ x ∈ l, x < 256) → ∀ x ∈ enc l, x < 128
  | [], _, x, hx => by cases hx
  | [a], h, x, hx => by
    have ha := h a (.head _)
    simp only [enc, List.mem_cons, List.not_mem_nil, or_false] at hx
    rcases hx with rfl | rfl | rfl | rfl
    · exact t128 _ (g1 ha)
    · exact t128 _ (e4 a ha).1
    · decide
    · decide
  | [a, b], h, x, hx => by
    have ha := h a (.head _)
    have hb := h b (.tail _ (.head _))
    simp only [enc, List.mem_cons, List.not_mem_nil, or_false] at hx
    rcases hx with rfl | rfl | rfl | rfl
    · exact t128 _ (g1 ha)
    · exact t128 _ (g2 a hb)
    · exact t128 _ (e5 b hb).1
    · decide
  | a :: b :: c :: r, h, x, hx => by
    have ha := h a (.head _)
    have hb := h b (.tail _ (.head _))
    have hc := h c (.tail _ (.tail _ (.head _)))
    simp only [enc, List.mem_cons] at hx
    rcases hx with rfl | rfl | rfl | rfl | hx
    · exact t128 _ (g1 ha)
    · exact t128 _ (g2 a hb)
    · exact t128 _ (g3 b hc)
    · exact t128 _ (g4 c)
    · exact enc_lt r (fun x hx => h x (.tail _ (.tail _ (.tail _ hx)))) x hx
theorem enc_len : ∀ (l : List Nat), (enc l).length ≤ 2 * l.length + 4
  | [] => by simp [enc]
  | [a] => by simp [enc]
  | [a, b] => by simp [enc]
  | a :: b :: c :: r => by have := enc_len r; simp [enc]; omega

end Mine
/- part C2 -/
namespace Mine
open PySem PySem.W PySem.Calls PyProof.Rows

section
variable {prog : Program} {w : World} {A : Around} {E : Value → Shared → Prop} {s : Shared} {x : Array UInt8} {tx : Tok} {Q : Value → Shared → Prop}
theorem isi_bytes_str (h : Q (.bool false) { s with toks := s.toks + 1 }) : wpAny (model prog w) A (call (.builtin "isinstance") [.bytes x tx, .type "str"]) Q E s :=
  call_isinstance (S := fun _ R s => R (.ok (.ret (.bool false))) { s with toks := s.toks + 1 }) (fun _ _ _ _ s hs => by
    obtain ⟨h, g, d, t, os⟩ := s
    exact isinstance_outer (isinstance_nested_false_bytes (by decide +kernel) F.isi_meta_str F.sub_bytes_str hs)) h
theorem isi_bytes_bytes (h : Q (.bool true) s) : wpAny (model prog w) A (call (.builtin "isinstance") [.bytes x tx, .type "bytes"]) Q E s :=
  call_isinstance (isinstance_true (Tx := "bytes") F.isi_meta_bytes F.sub_bytes_bytes) ⟨typeIs_bytes _ _ _, h⟩
theorem isi_bytes_pair {tp : Addr} (ht : s.heap.get? tp = some { cls := .type "tuple", data := .seq #[.type "bytes", .type "bytearray"] }) (h : ∀ k, Q (.bool true) { s with toks := k }) : wpAny (model prog w) A (call (.builtin "isinstance") [.bytes x tx, .ref tp]) Q E s :=
  call_isinstance (isinstance_tuple (Tx := "bytes") (cs := [.type "bytes", .type "bytearray"]) (vs := [true, false]) ⟨Answers.of_true F.isi_meta_bytes F.sub_bytes_bytes, fun _ _ _ _ _ _ s hs => by
    obtain ⟨h, g, d, t, os⟩ := s
    exact isinstance_nested_false_bytes (by decide +kernel) F.isi_meta_bytearray F.sub_bytes_bytearray (hs.2 (t + 1)), trivial⟩) ⟨typeIs_bytes _ _ _, ht, h⟩
end
end Mine
/- part B16 -/
namespace Mine
open PySem PySem.W PySem.Calls PyProof.Rows
variable {b0 : Nat}

theorem Wd.K {w : World} {h : Heap} (W : Wd b0 w h) : (frag w.params).In h := fun a o e => W.obj e

/-- arguments filled up by the defaults -/
theorem bind_dflt {prog : Program} {w : World} {fd : FuncData} {ps : List Str} {ds es : List D} {Tu : Addr} {o : Obj} {items : Array Value} {n : Nat} {xs : List Value} {n0 : Nat} (hdf : fd.defaults = .ref Tu) (ho : (frag w.params).lookup Tu = some o) (hs : o.data = .seq items n)
    (hx : ∀ g, DAll g xs es) (hl : ds.length = n0) (hn : ps.length = n0 + xs.length)
    (hb : ∀ vs : List Value, vs.length = n0 → ∃ k, bindArgs fd ⟨vs, []⟩ = seqItems? fd.defaults >>= k ∧ k (some items) = pure (ps.zip (vs ++ xs))) :
    ∀ A s vs ks T, Wd b0 w s.heap → DAll (vw T s.heap) vs ds → ks.map (·.1) = ([] : List (Str × D)).map (·.1) → DAll (vw T s.heap) (ks.map (·.2)) (([] : List (Str × D)).map (·.2)) →
      ∃ us, us.length = ps.length ∧ DAll (vw T s.heap) us (ds ++ es) ∧ wpAny (model prog w) A (bindArgs fd ⟨vs, ks⟩) (fun b s₁ => b = ps.zip us ∧ s₁ = s) NoE s := fun A s vs ks T W hv hk _ => by
  obtain rfl : ks = [] := by cases ks with | nil => rfl | cons => cases hk
  have hlen := hv.length
  obtain ⟨k, h1, h2⟩ := hb vs (by omega)
  exact ⟨vs ++ xs, by rw [List.length_append]; omega, hv.append (hx _), BindsTo.of_defaults hdf (W.obj ho) hs h1 h2 _ _ _ _ ⟨rfl, rfl⟩⟩
/-- one keyword -/
theorem bind_kw {prog : Program} {w : World} {fd : FuncData} {ps : List Str} {ds : List D} {kn : Str} {kd : D} (hb : ∀ (vs : List Value) (u : Value), vs.length = ds.length → bindArgs fd ⟨vs, [(kn, u)]⟩ = pure (ps.zip (vs ++ [u]))) (hl : ps.length = ds.length + 1) :
    ∀ A s vs ks T, Wd b0 w s.heap → DAll (vw T s.heap) vs ds → ks.map (·.1) = ([(kn, kd)] : List (Str × D)).map (·.1) → DAll (vw T s.heap) (ks.map (·.2)) (([(kn, kd)] : List (Str × D)).map (·.2)) →
      ∃ us, us.length = ps.length ∧ DAll (vw T s.heap) us (ds ++ [kd]) ∧ wpAny (model prog w) A (bindArgs fd ⟨vs, ks⟩) (fun b s₁ => b = ps.zip us ∧ s₁ = s) NoE s := fun A s vs ks T W hv hk hkv => by
  have hlen := hv.length
  match ks, hk, hkv with
  | [(k', u)], hk, hkv =>
    simp only [List.map_cons, List.map_nil, List.cons.injEq, and_true] at hk
    subst hk
    exact ⟨vs ++ [u], by rw [List.length_append]; simp; omega, hv.append hkv, by rw [hb vs u hlen]; exact wpAny_pure ⟨rfl, rfl⟩⟩

section
variable {c : Cx} {S : St} {o : Out} {rest : List Stmt} {ks : List (List Stmt)} {T : List Addr}

theorem ev_callkw {k : Nat} {x : Str} {a : Addr} {e : Expr} {es : List Expr} {p pos kp : Pos} {ds : List D} {r : D} {kn : Str} {ke : Expr} {kd : D} (H : EnvOk c.env) (R : Room k c.A) (hk : c.env.kindOf x = some .globalImplicit) (G : Gl b0 c.w x (.ref a))
    (hK : keepIn (frag c.w.params) (.ref a) = true) (hf : Fn b0 c.prog c.w k a ds [(kn, kd)] r) (he : EvAll b0 c S (e :: es) ds) (hke : Ev b0 c S ke kd) (hs : ((e :: es).all fun e => !isStarred e) = true := by rfl) (hst : starEach (e :: es) c.env = (false, eval e c.env) :: starEach es c.env := by rfl)
    (hpl : ((backTo pos (starEach (e :: es) c.env)).any (·.1) || (backToKw pos (keywordEach [⟨some kn, ke, kp⟩] c.env)).any (·.1.isNone)) = false := by rfl)
    (hcall : eval (.Call (.Name x p) (e :: es) [⟨some kn, ke, kp⟩] pos) c.env = (do callWith pos (← eval (.Name x p) c.env) [] (backTo pos (starEach (e :: es) c.env)) (backToKw pos (keywordEach [⟨some kn, ke, kp⟩] c.env))) := by rfl) :
    Ev b0 c S (.Call (.Name x p) (e :: es) [⟨some kn, ke, kp⟩] pos) r := ⟨fun s F => by
  rw [hcall]
  refine wpAny_bind (G.go _ _ _ _ _ _ _ H hk F.wd ?_)
  refine callWith_of (P := fun h => (frag c.w.params).In h) hpl (fun h X => keeps_K hK h X) (evalArgs_kw2 rfl (he.use hs F fun vs s₁ e₁ F₁ A₁ => ?_) hst)
  show wpAny _ _ (evalAll [(do let v ← eval ke c.env; standAt pos; pure v)]) _ _ _
  refine PyProof.Rows.evalAll_cons (wpAny_bind (hke.use F₁ fun u s₂ e₂ F₂ A₂ => wpAny_bind (wpAny_standAt (wpAny_pure ?_))))
  refine PyProof.Rows.evalAll_nil ⟨F₂.wd.K, wpAny_call (codeAny_mono (hf.go c.A s₂ vs [(kn, u)] S.T R F₂.wd F₂.hid (A₁.mono (vw_sub F₁.tab e₂.grow)) rfl (.cons A₂ .nil)) fun res s₃ q => ?_)⟩
  obtain ⟨v, rfl, e₃, d⟩ := q
  exact ⟨(e₁.trans e₂).trans e₃, d⟩⟩

theorem ev_glb {x : Str} {v : Value} {d : D} {p : Pos} (H : EnvOk c.env) (hk : c.env.kindOf x = some .globalImplicit) (G : Gl b0 c.w x v) (h : ∀ g, DAt g v d) : Ev b0 c S (.Name x p) d := ⟨fun s F =>
  G.go _ _ _ _ _ _ _ H hk F.wd ⟨.refl _, h _⟩⟩

theorem run_while {test : Expr} {body : List Stmt} {pos : Pos} (n : Nat) (σ : Nat → List (Str × D)) (own : Nat → Option (Str × Addr × List D)) (h0 : ∀ y d, (σ 0).lookup y = some d → S.σ.lookup y = some d) (hw : S.own = own 0)
    (ht : ∀ i, i ≤ n → Tst b0 c { S with σ := σ i, own := own i } test (decide (i < n)))
    (turn : ∀ i, i < n → Run b0 c { S with σ := σ i, own := own i } body [] (.turn { S with σ := σ (i + 1), own := own (i + 1) }))
    (done : Run b0 c { S with σ := σ n, own := own n } rest ks o) : Run b0 c S (.While test body [] pos :: rest) ks o := run_cons fun s F => by
  have F₀ : FS b0 c.w c.env { S with σ := σ 0, own := own 0 } s.heap := F.le ⟨rfl, rfl, rfl, hw.symm, h0⟩
  refine wpAny_While (codeAny_whileLoop (fun k s' => ∃ i, k = n - i ∧ i ≤ n ∧ Same s s' ∧ FS b0 c.w c.env { S with σ := σ i, own := own i } s'.heap) ?_ n ⟨0, rfl, Nat.zero_le _, .refl _, F₀⟩)
  rintro k s' ⟨i, rfl, hi, hsame, F'⟩
  refine (ht i hi).use F' fun s₁ e₁ F₁ => ?_
  by_cases hlt : i < n
  · rw [decide_eq_true hlt, if_pos rfl]
    refine wpAny_mono ((turn i hlt).use (S₀ := { S with σ := σ i, own := own i }) (s₀ := s) ⟨rfl, rfl⟩ (hsame.trans e₁.same) F₁) (fun f s₄ q₄ => ?_) fun _ _ z => z.elim
    have key : ∀ f', f = f' → Same s s₄ ∧ (f' = .next ∨ f' = .cont) ∧ FS b0 c.w c.env { S with σ := σ (i + 1), own := own (i + 1) } s₄.heap → ∃ m, m < n - i ∧ ∃ i_1, m = n - i_1 ∧ i_1 ≤ n ∧ Same s s₄ ∧ FS b0 c.w c.env { S with σ := σ i_1, own := own i_1 } s₄.heap := by
      rintro f' rfl ⟨a1, a2, F₇⟩
      exact ⟨n - (i + 1), by omega, i + 1, rfl, hlt, a1, F₇⟩
    cases f with
    | next => exact key .next rfl q₄
    | cont => exact key .cont rfl q₄
    | brk => exact absurd q₄.2.1 (by simp)
    | ret v => exact absurd q₄.2.1 (by simp)
  · rw [decide_eq_false hlt, if_neg (by decide)]
    have hin : i = n := by omega
    subst hin
    exact wpAny_execs_nil ⟨hsame.trans e₁.same, { S with σ := σ i, own := own i }, ⟨rfl, rfl⟩, F₁, done⟩

end

theorem g_B64 {w : World} : Gl b0 w "_B64" (.bytes tbl 276) := gl_own (by kernel_rfl) (by decide +kernel)
theorem g_bytearray {w : World} : Gl b0 w "bytearray" (.type "bytearray") := gl_blt (by kernel_rfl) (by decide +kernel) (by decide +kernel) (by decide +kernel)
end Mine
/- part B17 -/
namespace Mine
open PySem PySem.W PySem.Calls PyProof.Rows
variable {b0 : Nat}

section
variable {c : Cx} {S : St} {T : List Addr}
theorem bc_type_bytes {b : Array UInt8} : BC b0 c T (.type "type") [.bytes b] (.val (.type "bytes")) := bc_type fun s v h => by cases h; exact typeIs_bytes _ _ _
theorem bc_type_bool {b : Bool} : BC b0 c T (.type "type") [.bool b] (.val (.type "bool")) := bc_type fun s v h => by cases h; exact rfl
theorem bc_isi_bytes_str {b : Array UInt8} : BC b0 c T (.builtin "isinstance") [.bytes b, .val (.type "str")] (.bool false) := ⟨fun s vs W hT hv => by
  cases hv with
  | cons h1 h2 =>
    cases h1
    cases h2 with
    | cons h2 h3 => cases h2; cases h3; exact isi_bytes_str ⟨.tok _ _, .bool _⟩⟩
theorem bc_isi_bytes {b : Array UInt8} : BC b0 c T (.builtin "isinstance") [.bytes b, .val (.type "bytes")] (.bool true) := ⟨fun s vs W hT hv => by
  cases hv with
  | cons h1 h2 =>
    cases h1
    cases h2 with
    | cons h2 h3 => cases h2; cases h3; exact isi_bytes_bytes ⟨.refl _, .bool _⟩⟩
theorem bc_isi_pair {b : Array UInt8} : BC b0 c T (.builtin "isinstance") [.bytes b, .val (.ref 43)] (.bool true) := ⟨fun s vs W hT hv => by
  cases hv with
  | cons h1 h2 =>
    cases h1
    cases h2 with
    | cons h2 h3 => cases h2; cases h3; exact isi_bytes_pair (W.obj rfl) fun k => ⟨.tok _ _, .bool _⟩⟩
theorem tst_or2 {x y : Expr} {es : List Expr} {pos : Pos} (hx : Tst b0 c S x false) (hy : Tst b0 c S y true) : Tst b0 c S (.BoolOp .Or (x :: y :: es) pos) true := ⟨fun s F =>
  isTrue_or (hx.use F fun s₁ e₁ F₁ => isTrue_or (hy.use F₁ fun s₂ e₂ F₂ => ⟨e₁.trans e₂, rfl⟩))⟩
end

section
variable {prog : Program} {w : World}
theorem plain1 {fd : FuncData} {p : Str} (h : ∀ v : Value, bindArgs fd ⟨[v], []⟩ = pure [(p, v)]) : ∀ vs : List Value, vs.length = [p].length → bindArgs fd ⟨vs, []⟩ = pure ([p].zip vs)
  | [v], _ => h v

theorem fn_buffer {b : Array UInt8} : Fn b0 prog w 1 77 [.bytes b] [] (.bytes b) := by
  refine fn_of (k := 0) ["data"] [] (hK := rfl) (by kernel_rfl) rfl rfl rfl rfl rfl rfl rfl (by kernel_rfl) (by decide) [("data", .bytes b)] rfl (bind_plain (plain1 fun v => rfl) rfl) fun A L h₀ T R H => ?_
  refine run_assign H (ev_bt H rfl g_type (.cons (ev_name H lk_here) .nil) bc_type_bytes) (.inl rfl) (fun _ _ _ q => by cases q) ?_
  refine run_if (tst_cmp (ev_name H lk_here) (ev_gl H rfl g_bytes) cmp_is_ty) (fun h => ?_) fun h => absurd h (by decide)
  exact run_ret (ev_name H (lk_there (by decide +kernel) lk_here))
theorem fn_ascii_buffer {b : Array UInt8} : Fn b0 prog w 1 70 [.bytes b] [] (.bytes b) := by
  refine fn_of (k := 0) ["data"] [] (hK := rfl) (by kernel_rfl) rfl rfl rfl rfl rfl rfl rfl (by kernel_rfl) (by decide) [("data", .bytes b)] rfl (bind_plain (plain1 fun v => rfl) rfl) fun A L h₀ T R H => ?_
  refine run_assign H (ev_bt H rfl g_type (.cons (ev_name H lk_here) .nil) bc_type_bytes) (.inl rfl) (fun _ _ _ q => by cases q) ?_
  refine run_if (tst_cmp (ev_name H lk_here) (ev_gl H rfl g_str) cmp_is_ty) (fun h => absurd h (by decide)) fun h => run_pop ?_
  refine run_if (tst_cmp (ev_name H lk_here) (ev_gl H rfl g_bytes) cmp_is_ty) (fun h => ?_) fun h => absurd h (by decide)
  exact run_ret (ev_name H (lk_there (by decide +kernel) lk_here))
theorem fn_truth {b : Bool} : Fn b0 prog w 1 84 [.bool b] [] (.bool b) := by
  refine fn_of (k := 0) ["x"] [] (hK := rfl) (by kernel_rfl) rfl rfl rfl rfl rfl rfl rfl (by kernel_rfl) (by decide) [("x", .bool b)] rfl (bind_plain (plain1 fun v => rfl) rfl) fun A L h₀ T R H => ?_
  refine run_assign H (ev_bt H rfl g_type (.cons (ev_name H lk_here) .nil) bc_type_bool) (.inl rfl) (fun _ _ _ q => by cases q) ?_
  refine run_if (b := true) (tst_or2 (tst_cmp (ev_name H (lk_there (by decide +kernel) lk_here)) ev_none cmp_is_none) (tst_cmp (ev_name H lk_here) (ev_gl H rfl g_bool) cmp_is_ty)) (fun h => ?_) fun h => absurd h (by decide)
  refine run_ret (ev_if (tst_val (ev_name H (lk_there (by decide +kernel) lk_here)) tru_bool) (fun h => ?_) fun h => ?_)
  · rw [h]; exact ev_bool
  · rw [h]; exact ev_bool
theorem fn_from_decode {b : Array UInt8} : Fn b0 prog w 1 50 [.bytes b] [] (.bytes b) := by
  refine fn_of (k := 0) ["s"] [] (hK := rfl) (by kernel_rfl) rfl rfl rfl rfl rfl rfl rfl (by kernel_rfl) (by decide) [("s", .bytes b)] rfl (bind_plain (plain1 fun v => rfl) rfl) fun A L h₀ T R H => ?_
  refine run_if (tst_val (ev_bn H rfl g_isinstance (.cons (ev_name H lk_here) (.cons (ev_gl H rfl g_str) .nil)) bc_isi_bytes_str) tru_bool) (fun h => absurd h (by decide)) fun h => run_pop ?_
  refine run_if (tst_val (ev_bn H rfl g_isinstance (.cons (ev_name H lk_here) (.cons (ev_gl H rfl g_bytes_types) .nil)) bc_isi_pair) tru_bool) (fun h => ?_) fun h => absurd h (by decide)
  exact run_ret (ev_name H lk_here)
end
end Mine
/- part B18 -/
namespace Mine
open PySem PySem.W PySem.Calls PyProof.Rows
variable {b0 : Nat}
theorem lk_nil {σ : List (Str × D)} : ∀ y e, ([] : List (Str × D)).lookup y = some e → σ.lookup y = some e := fun _ _ h => by cases h
theorem lk_cons {σ τ : List (Str × D)} {x : Str} {d : D} (h : σ.lookup x = some d) (r : ∀ y e, τ.lookup y = some e → σ.lookup y = some e) : ∀ y e, ((x, d) :: τ).lookup y = some e → σ.lookup y = some e := fun y e q => by
  rw [List.lookup_cons] at q
  cases hy : y == x with
  | true => (first | exact clash hy q | exact none1 hy q | obtain rfl := one1 hy q | (rw [hy] at q; cases q)); rw [show y = x by simpa using hy]; exact h
  | false => rw [hy] at q; exact r y e q
theorem Ev.cast {c : Cx} {S : St} {e : Expr} {d d' : D} (h : Ev b0 c S e d) (q : d = d') : Ev b0 c S e d' := q ▸ h
theorem Tst.cast {c : Cx} {S : St} {e : Expr} {d d' : Bool} (h : Tst b0 c S e d) (q : d = d') : Tst b0 c S e d' := q ▸ h
def dI (n : Nat) : D := .int (n : Int)
theorem dI_map (l : List Nat) : l.map dI = (l.map fun n : Nat => (n : Int)).map D.int := by rw [List.map_map]; rfl
theorem tbl_at {n : Nat} (h : n < 64) : tbl[n]? = some (tbl.getD n 0) := by
  have : n < tbl.size := h
  rw [Array.getD_eq_getD_getElem?, Array.getElem?_eq_getElem this]; rfl
theorem tblN_lt (n : Nat) : tblN n < 256 := UInt8.toNat_lt _
section
variable {c : Cx} {S : St}
/-- one sign of the table -/
theorem ev_tbl (H : EnvOk c.env) (hk : c.env.kindOf "_B64" = some .globalImplicit) {e : Expr} {p pos : Pos} {n : Nat} (h : Ev b0 c S e (.int (n : Int))) (hn : n < 64) (hs : ∀ o i, subscripted e false o i = operate [o, i] (getItem o i) := by intro _ _; rfl) : Ev b0 c S (.Subscript (.Name "_B64" p) e pos) (dI (tblN n)) :=
  ev_item (ev_glb H hk g_B64 fun g => .bytes _ _) h (it_bytes rfl (tbl_at hn) (by decide)) hs
end
theorem shift_eq (m k : Nat) (e : Int) (he : e = (k : Int)) : ((m : Int).fdiv (2 ^ e.toNat)) = ((m / 2 ^ k : Nat) : Int) := by
  subst he
  rw [Int.toNat_natCast, Int.fdiv_eq_ediv_of_nonneg _ (by exact_mod_cast Nat.zero_le _)]
  push_cast; rfl
theorem lc_eq (lc b : Nat) (hb : b < 256) : Builtin.bitAnd (Builtin.bitOr ((lc : Int) * 2 ^ (8 : Int).toNat) (b : Int)) 65535 = (((lc * 256 + b) % 65536 : Nat) : Int) := by
  rw [show (8 : Int).toNat = 8 from rfl, or_disj 8 lc b hb, bitAnd_m16, show lc * 2 ^ 8 + b = lc * 256 + b from rfl]
  omega
theorem and63 (m : Nat) : Builtin.bitAnd (m : Int) 63 = ((m % 64 : Nat) : Int) := by rw [bitAnd_m6]; push_cast; rfl
theorem and15 (m : Nat) : Builtin.bitAnd (m : Int) 15 = ((m % 16 : Nat) : Int) := by rw [bitAnd_m4]; push_cast; rfl
theorem and3 (m : Nat) : Builtin.bitAnd (m : Int) 3 = ((m % 4 : Nat) : Int) := by rw [bitAnd_m2]; push_cast; rfl
theorem em_len (lb lc : Nat) : (em lb lc).length = lb / 6 := by simp [em]
theorem em_take {lb lc j : Nat} (h : j < lb / 6) : (em lb lc).take (j + 1) = (em lb lc).take j ++ [lc / 2 ^ (lb - 6 * j - 6) % 64] := by
  have hl : j < (em lb lc).length := by rw [em_len]; exact h
  rw [List.take_succ_eq_append_getElem hl]
  simp only [em, List.getElem_map, List.getElem_range]
theorem bst_small : ∀ (l : List Nat) (s : BS), s.1 < 6 → s.2.1 < 65536 → (l.foldl bstep s).1 < 6 ∧ (l.foldl bstep s).2.1 < 65536
  | [], s, h, h2 => ⟨h, h2⟩
  | b :: l, s, h, h2 => bst_small l _ (Nat.mod_lt _ (by decide)) (Nat.mod_lt _ (by decide))
theorem bst_len : ∀ (l : List Nat) (s : BS), s.1 < 6 → (l.foldl bstep s).2.2.length ≤ s.2.2.length + 2 * l.length
  | [], s, h => by simp
  | b :: l, s, h => by
    have := bst_len l (bstep s b) (Nat.mod_lt _ (by decide))
    rw [List.foldl_cons, List.length_cons]
    have h2 : (bstep s b).2.2.length = s.2.2.length + (s.1 + 8) / 6 := by simp [bstep, em_len]
    omega

def outD (l : List Nat) : List D := (l.map tblN).map dI
theorem outD_snoc (l : List Nat) (n : Nat) : outD (l ++ [n]) = outD l ++ [dI (tblN n)] := by simp [outD]

theorem fn_b2a {prog : Program} {w : World} {b : Array UInt8} (hz : b.size ≤ 10000) : Fn b0 prog w 2 107 [.bytes b] [("newline", .bool false)] (.bytes (byteArr ((b2a (b.toList.map (·.toNat))).map fun n : Nat => (n : Int)))) := by
  refine fn_of (k := 1) ["data", "newline"] [] (hK := rfl) (by kernel_rfl) rfl rfl rfl rfl rfl rfl rfl (by kernel_rfl) (by decide +kernel) [("data", .bytes b), ("newline", .bool false)] rfl
    (bind_kw (fun vs u hv => by match vs, hv with | [v], _ => rfl) rfl) fun A L h₀ T R H => ?_
  generalize hl : b.toList.map (·.toNat) = l
  have hll : l.length = b.size := by rw [← hl]; simp
  have hlt : ∀ x ∈ l, x < 256 := fun x hx => by rw [← hl] at hx; obtain ⟨y, _, rfl⟩ := List.mem_map.mp hx; exact UInt8.toNat_lt _
  have hds : (b.toList.map fun x => D.int (x.toNat : Int)) = l.map dI := by rw [← hl, List.map_map]; rfl
  refine run_assign H (ev_call H R rfl g_buffer (hK := rfl) fn_buffer (.cons (ev_name H (by repeat (first | exact lk_here | refine lk_there (by decide +kernel) ?_))) .nil)) (.inl rfl) (fun _ _ _ q => by cases q) ?_
  refine run_assign H (ev_call H R rfl g_truth (hK := rfl) fn_truth (.cons (ev_name H (by repeat (first | exact lk_here | refine lk_there (by decide +kernel) ?_))) .nil)) (.inl rfl) (fun _ _ _ q => by cases q) ?_
  refine run_own H rfl .nil (.inl rfl) fun a haT => ?_
  refine run_assign H ev_int (.inl rfl) (fun y a ds q => by cases q; decide +kernel) ?_
  refine run_assign H ev_int (.inl rfl) (fun y a ds q => by cases q; decide +kernel) ?_
  let st : Nat → BS := fun i => (l.take i).foldl bstep (0, 0, [])
  refine run_for H (fun x c hx => by cases hx) (fun i => [("leftbits", .int ((st i).1 : Nat)), ("leftchar", .int ((st i).2.1 : Nat)), ("newline", .bool false)]) (fun i => some ("out", a, outD (st i).2.2))
    (src_ev (ev_name H (by repeat (first | exact lk_here | refine lk_there (by decide +kernel) ?_))) (hds ▸ pyit_bytes R.handled)) (lk_cons (by repeat (first | exact lk_here | refine lk_there (by decide +kernel) ?_)) (lk_cons (by repeat (first | exact lk_here | refine lk_there (by decide +kernel) ?_)) (lk_cons (by repeat (first | exact lk_here | refine lk_there (by decide +kernel) ?_)) lk_nil))) rfl (.inl rfl) (fun i y a ds q => by cases q; decide +kernel) ?_ ?_
  · intro h₁ i d hd
    obtain ⟨x, hx, rfl⟩ : ∃ x, l[i]? = some x ∧ dI x = d := by simpa using hd
    have hx256 : x < 256 := hlt x (List.mem_of_getElem? hx)
    have hst : st (i + 1) = bstep (st i) x := PyProof.Rows.foldl_take_succ bstep _ hx
    have hsm := bst_small (l.take i) (0, 0, []) (by decide) (by decide)
    have hlen := bst_len (l.take i) (0, 0, []) (by decide)
    have hil : (l.take i).length ≤ l.length := by rw [List.length_take]; omega
    change (st i).1 < 6 ∧ (st i).2.1 < 65536 at hsm
    change (st i).2.2.length ≤ 0 + 2 * (l.take i).length at hlen
    generalize st i = s at hst hsm hlen
    rw [hst]
    obtain ⟨lb, lc, out⟩ := s
    obtain ⟨hlb, hlc⟩ := hsm
    simp only at hlb hlc hlen
    refine run_assign H ((ev_bin (ev_bin (ev_bin (ev_name H (by repeat (first | exact lk_here | refine lk_there (by decide +kernel) ?_))) ev_int (bin_shl ⟨by decide, by decide, by omega⟩)) (ev_name H (by repeat (first | exact lk_here | refine lk_there (by decide +kernel) ?_))) bin_or) ev_int bin_and).cast (congrArg D.int (lc_eq lc x hx256))) (.inl rfl) (fun y a ds q => by cases q; decide +kernel) ?_
    generalize hlc' : (lc * 256 + x) % 65536 = lc'
    refine run_assign H ((ev_bin (ev_name H (by repeat (first | exact lk_here | refine lk_there (by decide +kernel) ?_))) ev_int bin_add).cast (d' := .int ((lb + 8 : Nat) : Int)) (by simp)) (.inl rfl) (fun y a ds q => by cases q; decide +kernel) ?_
    refine run_while ((lb + 8) / 6) (fun j => [("leftbits", .int ((lb + 8 - 6 * j : Nat) : Int)), ("leftchar", .int (lc' : Int)), ("newline", .bool false)]) (fun j => some ("out", a, outD (out ++ (em (lb + 8) lc').take j))) (lk_cons (by repeat (first | exact lk_here | refine lk_there (by decide +kernel) ?_)) (lk_cons (by repeat (first | exact lk_here | refine lk_there (by decide +kernel) ?_)) (lk_cons (by repeat (first | exact lk_here | refine lk_there (by decide +kernel) ?_)) lk_nil))) (by simp [St.set]) ?_ ?_ ?_
    · intro j hj
      refine (tst_cmp (ev_name H (by repeat (first | exact lk_here | refine lk_there (by decide +kernel) ?_))) ev_int cmp_ge).cast ?_
      rw [decide_eq_decide]; omega
    · intro j hj
      have hz6 : ((lb + 8 - 6 * j : Nat) : Int) - 6 = ((lb + 8 - 6 * j - 6 : Nat) : Int) := by omega
      refine run_append H rfl ((ev_tbl H rfl ((ev_bin (ev_bin (ev_name H (by repeat (first | exact lk_here | refine lk_there (by decide +kernel) ?_))) (ev_bin (ev_name H (by repeat (first | exact lk_here | refine lk_there (by decide +kernel) ?_))) ev_int bin_sub) (bin_shr (by omega))) ev_int bin_and).cast (congrArg D.int (by rw [shift_eq lc' _ _ hz6, and63]))) (Nat.mod_lt _ (by decide)))) ?_ (by simp [outD]; have := em_len (lb + 8) lc'; omega)
      refine run_assign H ((ev_bin (ev_name H (by repeat (first | exact lk_here | refine lk_there (by decide +kernel) ?_))) ev_int bin_sub).cast (d' := .int ((lb + 8 - 6 * (j + 1) : Nat) : Int)) (congrArg D.int (by omega))) (.inl rfl) (fun y a ds q => by cases q; decide +kernel) ?_
      refine run_turn ⟨rfl, rfl, rfl, ?_, lk_cons (by repeat (first | exact lk_here | refine lk_there (by decide +kernel) ?_)) (lk_cons (by repeat (first | exact lk_here | refine lk_there (by decide +kernel) ?_)) (lk_cons (by repeat (first | exact lk_here | refine lk_there (by decide +kernel) ?_)) lk_nil))⟩
      show some _ = some _
      rw [em_take hj, ← List.append_assoc, outD_snoc]
    · have hm : (lb + 8) % 6 = lb + 8 - 6 * ((lb + 8) / 6) := by omega
      refine run_turn ⟨rfl, rfl, rfl, ?_, lk_cons (d := .int (((lb + 8) % 6 : Nat) : Int)) (by rw [hm]; exact (by repeat (first | exact lk_here | refine lk_there (by decide +kernel) ?_))) (lk_cons (d := .int (((lc * 256 + x) % 65536 : Nat) : Int)) (by rw [hlc']; exact (by repeat (first | exact lk_here | refine lk_there (by decide +kernel) ?_))) (lk_cons (by repeat (first | exact lk_here | refine lk_there (by decide +kernel) ?_)) lk_nil))⟩
      show some _ = some _
      rw [← em_len (lb + 8) lc', List.take_length, ← hlc']; rfl
  · have hN : ∀ i, (l.map dI).length = i → st i = l.foldl bstep (0, 0, []) := fun i hi => by
      show (l.take i).foldl bstep _ = _
      rw [List.take_of_length_le (by rw [← hi]; simp)]
    have hb2 : b2a l = bfin (l.foldl bstep (0, 0, [])) := rfl
    rw [hb2]
    have hsm := bst_small l (0, 0, []) (by decide) (by decide)
    have hlen := bst_len l (0, 0, []) (by decide)
    simp only [hN _ rfl]
    generalize l.foldl bstep (0, 0, []) = s at hsm hlen
    obtain ⟨lb, lc, out⟩ := s
    obtain ⟨hlb, hlc⟩ := hsm
    simp only [List.length_nil] at hlb hlc hlen
    have nlt : ∀ n ∈ out.map tblN, n < 256 := fun n hn => by obtain ⟨y, _, rfl⟩ := List.mem_map.mp hn; exact tblN_lt _
    have nlen : out.length ≤ 20000 := by omega
    refine run_if (b := decide (lb = 2)) ((tst_cmp (ev_name H (by repeat (first | exact lk_here | refine lk_there (by decide +kernel) ?_))) ev_int cmp_eq).cast (by rw [Bool.eq_iff_iff]; simp; omega)) (fun h => ?_) fun h => ?_
    · have hb : lb = 2 := of_decide_eq_true h
      subst hb
      refine run_append H rfl (ev_tbl H rfl ((ev_bin (ev_bin (ev_name H (by repeat (first | exact lk_here | refine lk_there (by decide +kernel) ?_))) ev_int bin_and) ev_int (bin_shl ⟨by decide, by decide, by rw [and3]; omega⟩)).cast (d' := .int ((lc % 4 * 16 : Nat) : Int)) (congrArg D.int (by rw [and3]; push_cast; rfl))) (by omega)) ?_ (by simp [outD]; omega)
      refine run_append H rfl ev_int ?_ (by simp [outD]; omega)
      refine run_append H rfl ev_int ?_ (by simp [outD]; omega)
      have he : outD out ++ [dI (tblN (lc % 4 * 16))] ++ [D.int 61] ++ [D.int 61] = (bfin (2, lc, out)).map dI := by simp [outD, bfin, dI]
      have hn : ∀ n ∈ bfin (2, lc, out), n < 256 := fun n hn => by
        simp only [bfin, if_true, List.mem_append] at hn
        rcases hn with hn | hn
        · exact nlt n hn
        · rcases List.mem_cons.mp hn with rfl | hn
          · exact tblN_lt _
          · simp at hn; omega
      have hlen2 : (bfin (2, lc, out)).length ≤ 30000 := by simp [bfin]; omega
      rw [he]
      generalize bfin (2, lc, out) = ns at hn hlen2
      refine run_pop (run_if (tst_val (ev_name H (by repeat (first | exact lk_here | refine lk_there (by decide +kernel) ?_))) tru_bool) (fun h => absurd h (by decide)) fun _ => run_pop (run_freeze rfl rfl (fun _ h => h) haT (run_ret (ev_bt H rfl g_bytes (.cons ((ev_name H (by repeat (first | exact lk_here | refine lk_there (by decide +kernel) ?_))).cast (congrArg D.list (dI_map ns))) .nil) (bc_bytes R.handled ?_ ?_)))))
      · intro n hn'
        obtain ⟨m, hm, rfl⟩ := List.mem_map.mp hn'
        have := hn m hm
        omega
      · simp; omega
    · have hb2 : ¬ lb = 2 := of_decide_eq_false h
      refine run_if (b := decide (lb = 4)) ((tst_cmp (ev_name H (by repeat (first | exact lk_here | refine lk_there (by decide +kernel) ?_))) ev_int cmp_eq).cast (by rw [Bool.eq_iff_iff]; simp; omega)) (fun h => ?_) fun h => ?_
      · have hb : lb = 4 := of_decide_eq_true h
        subst hb
        refine run_append H rfl (ev_tbl H rfl ((ev_bin (ev_bin (ev_name H (by repeat (first | exact lk_here | refine lk_there (by decide +kernel) ?_))) ev_int bin_and) ev_int (bin_shl ⟨by decide, by decide, by rw [and15]; omega⟩)).cast (d' := .int ((lc % 16 * 4 : Nat) : Int)) (congrArg D.int (by rw [and15]; push_cast; rfl))) (by omega)) ?_ (by simp [outD]; omega)
        refine run_append H rfl ev_int ?_ (by simp [outD]; omega)
        have he : outD out ++ [dI (tblN (lc % 16 * 4))] ++ [D.int 61] = (bfin (4, lc, out)).map dI := by simp [outD, bfin, dI]
        have hn : ∀ n ∈ bfin (4, lc, out), n < 256 := fun n hn => by
          simp only [bfin, if_true, show ¬ (4 = 2) by decide, if_false, List.mem_append] at hn
          rcases hn with hn | hn
          · exact nlt n hn
          · rcases List.mem_cons.mp hn with rfl | hn
            · exact tblN_lt _
            · simp at hn; omega
        have hlen2 : (bfin (4, lc, out)).length ≤ 30000 := by simp [bfin]; omega
        rw [he]
        generalize bfin (4, lc, out) = ns at hn hlen2
        refine run_pop ?_
        refine run_pop (run_if (tst_val (ev_name H (by repeat (first | exact lk_here | refine lk_there (by decide +kernel) ?_))) tru_bool) (fun h => absurd h (by decide)) fun _ => run_pop (run_freeze rfl rfl (fun _ h => h) haT (run_ret (ev_bt H rfl g_bytes (.cons ((ev_name H (by repeat (first | exact lk_here | refine lk_there (by decide +kernel) ?_))).cast (congrArg D.list (dI_map ns))) .nil) (bc_bytes R.handled ?_ ?_)))))
        · intro n hn'
          obtain ⟨m, hm, rfl⟩ := List.mem_map.mp hn'
          have := hn m hm
          omega
        · simp; omega
      · have hb4 : ¬ lb = 4 := of_decide_eq_false h
        have he : outD out = (bfin (lb, lc, out)).map dI := by simp [outD, bfin, hb2, hb4]
        have hn : ∀ n ∈ bfin (lb, lc, out), n < 256 := fun n hn => by
          simp only [bfin, hb2, hb4, if_false, List.append_nil] at hn
          exact nlt n hn
        have hlen2 : (bfin (lb, lc, out)).length ≤ 30000 := by simp [bfin, hb2, hb4]; omega
        rw [he]
        generalize bfin (lb, lc, out) = ns at hn hlen2
        refine run_pop ?_
        refine run_pop (run_if (tst_val (ev_name H (by repeat (first | exact lk_here | refine lk_there (by decide +kernel) ?_))) tru_bool) (fun h => absurd h (by decide)) fun _ => run_pop (run_freeze rfl rfl (fun _ h => h) haT (run_ret (ev_bt H rfl g_bytes (.cons ((ev_name H (by repeat (first | exact lk_here | refine lk_there (by decide +kernel) ?_))).cast (congrArg D.list (dI_map ns))) .nil) (bc_bytes R.handled ?_ ?_)))))
        · intro n hn'
          obtain ⟨m, hm, rfl⟩ := List.mem_map.mp hn'
          have := hn m hm
          omega
        · simp; omega

end Mine
/- part B19 -/
namespace Mine
open PySem PySem.W PySem.Calls PyProof.Rows
variable {b0 : Nat}
theorem shl_or (a k n : Nat) (e : Int) (he : e = (k : Int)) (hn : n < 2 ^ k) : Builtin.bitOr ((a : Int) * 2 ^ e.toNat) (n : Int) = ((a * 2 ^ k + n : Nat) : Int) := by
  subst he
  rw [Int.toNat_natCast, or_disj k a n hn]
theorem fn_a2b {prog : Program} {w : World} {b : Array UInt8} {q₁ lc₁ p₁ : Nat} {out₁ : List Nat} (hz : b.size ≤ 50000) (hfold : (b.toList.map (·.toNat)).foldl astep (0, 0, 0, []) = (q₁, lc₁, p₁, out₁)) (hq1 : q₁ ≠ 1) (hq : q₁ = 0 ∨ 4 ≤ q₁ + p₁) :
    Fn b0 prog w 2 99 [.bytes b] [("strict_mode", .bool false)] (.bytes (byteArr (out₁.map fun n : Nat => (n : Int)))) := by
  refine fn_of (k := 1) ["data", "strict_mode"] [] (hK := rfl) (by kernel_rfl) rfl rfl rfl rfl rfl rfl rfl (by kernel_rfl) (by decide +kernel) [("data", .bytes b), ("strict_mode", .bool false)] rfl
    (bind_kw (fun vs u hv => by match vs, hv with | [v], _ => rfl) rfl) fun A L h₀ T R H => ?_
  generalize hl : b.toList.map (·.toNat) = l at hfold
  have hll : l.length = b.size := by rw [← hl]; simp
  have hlt : ∀ x ∈ l, x < 256 := fun x hx => by rw [← hl] at hx; obtain ⟨y, _, rfl⟩ := List.mem_map.mp hx; exact UInt8.toNat_lt _
  have hds : (b.toList.map fun x => D.int (x.toNat : Int)) = l.map dI := by rw [← hl, List.map_map]; rfl
  refine run_assign H (ev_call H R rfl g_ascii_buffer (hK := rfl) fn_ascii_buffer (.cons (ev_name H (by repeat (first | exact lk_here | refine lk_there (by decide +kernel) ?_))) .nil)) (.inl rfl) (fun _ _ _ q => by cases q) ?_
  refine run_assign H (ev_call H R rfl g_truth (hK := rfl) fn_truth (.cons (ev_name H (by repeat (first | exact lk_here | refine lk_there (by decide +kernel) ?_))) .nil)) (.inl rfl) (fun _ _ _ q => by cases q) ?_
  refine run_own H rfl .nil (.inl rfl) fun a haT => ?_
  refine run_assign H ev_int (.inl rfl) (fun y a ds q => by cases q; decide +kernel) ?_
  refine run_assign H ev_int (.inl rfl) (fun y a ds q => by cases q; decide +kernel) ?_
  refine run_assign H ev_int (.inl rfl) (fun y a ds q => by cases q; decide +kernel) ?_
  refine run_assign H ev_int (.inl rfl) (fun y a ds q => by cases q; decide +kernel) ?_
  let st : Nat → AS := fun i => (l.take i).foldl astep (0, 0, 0, [])
  refine run_for H (fun x c hx => by cases hx) (fun i => [("quad_pos", .int ((st i).1 : Nat)), ("leftchar", .int ((st i).2.1 : Nat)), ("pads", .int ((st i).2.2.1 : Nat)), ("i", .int (i : Nat)), ("strict_mode", .bool false)]) (fun i => some ("out", a, (st i).2.2.2.map dI))
    (src_ev (ev_name H (by repeat (first | exact lk_here | refine lk_there (by decide +kernel) ?_))) (hds ▸ pyit_bytes R.handled)) (lk_cons (by repeat (first | exact lk_here | refine lk_there (by decide +kernel) ?_)) (lk_cons (by repeat (first | exact lk_here | refine lk_there (by decide +kernel) ?_)) (lk_cons (by repeat (first | exact lk_here | refine lk_there (by decide +kernel) ?_)) (lk_cons (by repeat (first | exact lk_here | refine lk_there (by decide +kernel) ?_)) (lk_cons (by repeat (first | exact lk_here | refine lk_there (by decide +kernel) ?_)) lk_nil))))) rfl (.inl rfl) (fun i y a ds q => by cases q; decide +kernel) ?_ ?_
  · intro h₁ i d hd
    obtain ⟨x, hx, rfl⟩ : ∃ x, l[i]? = some x ∧ dI x = d := by simpa using hd
    have hx256 : x < 256 := hlt x (List.mem_of_getElem? hx)
    have hi : i < l.length := by
      rcases Nat.lt_or_ge i l.length with h' | h'
      · exact h'
      · (first | exact clash (List.getElem?_eq_none h') hx | exact none1 (List.getElem?_eq_none h') hx | obtain rfl := one1 (List.getElem?_eq_none h') hx | (rw [List.getElem?_eq_none h'] at hx; cases hx))
    have hst : st (i + 1) = astep (st i) x := PyProof.Rows.foldl_take_succ astep _ hx
    have hok : AOk (st i) := AOk.fold _ _ AOk.zero
    have hlen := alen (l.take i) (0, 0, 0, [])
    have hil : (l.take i).length ≤ l.length := by rw [List.length_take]; omega
    change (st i).2.2.2.length ≤ 0 + (l.take i).length at hlen
    generalize st i = s at hst hok hlen
    rw [hst]
    obtain ⟨q, lc, p, out⟩ := s
    obtain ⟨h1, h2, h3, h4, h5⟩ := hok
    simp only at h1 h2 h3 h4 h5 hlen
    refine run_if (b := decide (x = 61)) ((tst_cmp (ev_name H (by repeat (first | exact lk_here | refine lk_there (by decide +kernel) ?_))) ev_int cmp_eq).cast (by rw [Bool.eq_iff_iff]; simp; omega)) (fun h => ?_) fun h => ?_
    · have hx61 : x = 61 := of_decide_eq_true h
      have he : astep (q, lc, p, out) x = (q, lc, p + 1, out) := by rw [hx61, asP]
      rw [he]
      refine run_assign H ((ev_bin (ev_name H (by repeat (first | exact lk_here | refine lk_there (by decide +kernel) ?_))) ev_int bin_add).cast (d' := .int ((p + 1 : Nat) : Int)) (by simp)) (.inl rfl) (fun y a ds q => by cases q; decide +kernel) ?_
      refine run_if (tst_and (tst_cmp (ev_name H (by repeat (first | exact lk_here | refine lk_there (by decide +kernel) ?_))) ev_int cmp_ge) fun _ => tst_cmp (ev_bin (ev_name H (by repeat (first | exact lk_here | refine lk_there (by decide +kernel) ?_))) (ev_name H (by repeat (first | exact lk_here | refine lk_there (by decide +kernel) ?_))) bin_add) ev_int cmp_le) (fun h => ?_) fun h => ?_
      · refine run_assign H ((ev_bin (ev_name H (by repeat (first | exact lk_here | refine lk_there (by decide +kernel) ?_))) ev_int bin_add).cast (d' := .int ((i + 1 : Nat) : Int)) (by simp)) (.inl rfl) (fun y a ds q => by cases q; decide +kernel) ?_
        exact run_cont ⟨rfl, rfl, rfl, rfl, lk_cons (by repeat (first | exact lk_here | refine lk_there (by decide +kernel) ?_)) (lk_cons (by repeat (first | exact lk_here | refine lk_there (by decide +kernel) ?_)) (lk_cons (by repeat (first | exact lk_here | refine lk_there (by decide +kernel) ?_)) (lk_cons (by repeat (first | exact lk_here | refine lk_there (by decide +kernel) ?_)) (lk_cons (by repeat (first | exact lk_here | refine lk_there (by decide +kernel) ?_)) lk_nil))))⟩
      · refine run_pop (run_if (tst_not (tst_val (ev_name H (by repeat (first | exact lk_here | refine lk_there (by decide +kernel) ?_))) tru_bool)) (fun h => ?_) (fun h => absurd h (by decide)))
        refine run_assign H ((ev_bin (ev_name H (by repeat (first | exact lk_here | refine lk_there (by decide +kernel) ?_))) ev_int bin_add).cast (d' := .int ((i + 1 : Nat) : Int)) (by simp)) (.inl rfl) (fun y a ds q => by cases q; decide +kernel) ?_
        exact run_cont ⟨rfl, rfl, rfl, rfl, lk_cons (by repeat (first | exact lk_here | refine lk_there (by decide +kernel) ?_)) (lk_cons (by repeat (first | exact lk_here | refine lk_there (by decide +kernel) ?_)) (lk_cons (by repeat (first | exact lk_here | refine lk_there (by decide +kernel) ?_)) (lk_cons (by repeat (first | exact lk_here | refine lk_there (by decide +kernel) ?_)) (lk_cons (by repeat (first | exact lk_here | refine lk_there (by decide +kernel) ?_)) lk_nil))))⟩
    · have hx61 : ¬ x = 61 := of_decide_eq_false h
      refine run_pop (run_assign H ((ev_call H R rfl g_b64_value (hK := rfl) fn_b64_value (.cons (ev_name H (by repeat (first | exact lk_here | refine lk_there (by decide +kernel) ?_))) .nil)).cast (d' := .int (b64n x : Int)) (congrArg D.int (b64n_eq x))) (.inl rfl) (fun y a ds q => by cases q; decide +kernel) ?_)
      generalize hv : b64n x = v
      refine run_if (b := decide (64 ≤ v)) ((tst_cmp (ev_name H (by repeat (first | exact lk_here | refine lk_there (by decide +kernel) ?_))) ev_int cmp_ge).cast (by rw [decide_eq_decide]; omega)) (fun h => ?_) fun h => ?_
      · have hv64 : 64 ≤ v := of_decide_eq_true h
        have he : astep (q, lc, p, out) x = (q, lc, p, out) := by simp [astep, hx61, hv, hv64]
        rw [he]
        refine run_if (tst_val (ev_name H (by repeat (first | exact lk_here | refine lk_there (by decide +kernel) ?_))) tru_bool) (fun h => absurd h (by decide)) fun _ => run_pop ?_
        refine run_assign H ((ev_bin (ev_name H (by repeat (first | exact lk_here | refine lk_there (by decide +kernel) ?_))) ev_int bin_add).cast (d' := .int ((i + 1 : Nat) : Int)) (by simp)) (.inl rfl) (fun y a ds q => by cases q; decide +kernel) ?_
        exact run_cont ⟨rfl, rfl, rfl, rfl, lk_cons (by repeat (first | exact lk_here | refine lk_there (by decide +kernel) ?_)) (lk_cons (by repeat (first | exact lk_here | refine lk_there (by decide +kernel) ?_)) (lk_cons (by repeat (first | exact lk_here | refine lk_there (by decide +kernel) ?_)) (lk_cons (by repeat (first | exact lk_here | refine lk_there (by decide +kernel) ?_)) (lk_cons (by repeat (first | exact lk_here | refine lk_there (by decide +kernel) ?_)) lk_nil))))⟩
      · have hv64 : ¬ 64 ≤ v := of_decide_eq_false h
        refine run_pop (run_if (b := false) ((tst_and (tst_val (ev_name H (by repeat (first | exact lk_here | refine lk_there (by decide +kernel) ?_))) tru_int) fun _ => tst_val (ev_name H (by repeat (first | exact lk_here | refine lk_there (by decide +kernel) ?_))) tru_bool).cast (Bool.and_false _)) (fun h => absurd h (by decide)) fun _ => run_pop ?_)
        refine run_assign H ev_int (.inl rfl) (fun y a ds q => by cases q; decide +kernel) ?_
        refine run_if (b := decide (q = 0)) ((tst_cmp (ev_name H (by repeat (first | exact lk_here | refine lk_there (by decide +kernel) ?_))) ev_int cmp_eq).cast (by rw [Bool.eq_iff_iff]; simp)) (fun h => ?_) fun h => ?_
        · have hq0 : q = 0 := of_decide_eq_true h
          have he : astep (q, lc, p, out) x = (1, v, 0, out) := by simp [astep, hx61, hv, hv64, hq0]
          rw [he]
          refine run_assign H ev_int (.inl rfl) (fun y a ds q => by cases q; decide +kernel) ?_
          refine run_assign (d := .int (v : Int)) H (ev_name H (by repeat (first | exact lk_here | refine lk_there (by decide +kernel) ?_))) (.inl rfl) (fun y a ds q => by cases q; decide +kernel) (run_pop ?_)
          refine run_assign H ((ev_bin (ev_name H (by repeat (first | exact lk_here | refine lk_there (by decide +kernel) ?_))) ev_int bin_add).cast (d' := .int ((i + 1 : Nat) : Int)) (by simp)) (.inl rfl) (fun y a ds q => by cases q; decide +kernel) ?_
          exact run_turn ⟨rfl, rfl, rfl, rfl, lk_cons (by repeat (first | exact lk_here | refine lk_there (by decide +kernel) ?_)) (lk_cons (by repeat (first | exact lk_here | refine lk_there (by decide +kernel) ?_)) (lk_cons (by repeat (first | exact lk_here | refine lk_there (by decide +kernel) ?_)) (lk_cons (by repeat (first | exact lk_here | refine lk_there (by decide +kernel) ?_)) (lk_cons (by repeat (first | exact lk_here | refine lk_there (by decide +kernel) ?_)) lk_nil))))⟩
        · have hq0 : ¬ q = 0 := of_decide_eq_false h
          refine run_if (b := decide (q = 1)) ((tst_cmp (ev_name H (by repeat (first | exact lk_here | refine lk_there (by decide +kernel) ?_))) ev_int cmp_eq).cast (by rw [Bool.eq_iff_iff]; simp; omega)) (fun h => ?_) fun h => ?_
          · have hq1 : q = 1 := of_decide_eq_true h
            have hb := h2 hq1
            have he : astep (q, lc, p, out) x = (2, v % 16, 0, out ++ [lc * 4 + v / 16]) := by simp [astep, hx61, hv, hv64, hq1]
            rw [he]
            refine run_assign H ev_int (.inl rfl) (fun y a ds q => by cases q; decide +kernel) ?_
            refine run_append H rfl ((ev_bin (ev_bin (ev_name H (by repeat (first | exact lk_here | refine lk_there (by decide +kernel) ?_))) ev_int (bin_shl ⟨by decide, by decide, by omega⟩)) ((ev_bin (ev_name H (by repeat (first | exact lk_here | refine lk_there (by decide +kernel) ?_))) ev_int (bin_shr (by decide))).cast (d' := .int ((v / 16 : Nat) : Int)) (congrArg D.int (shift_eq v 4 _ rfl))) bin_or).cast (d' := dI (lc * 4 + v / 16)) (congrArg D.int (shl_or lc 2 _ _ rfl (by omega)))) ?_ (by simp; omega)
            refine run_assign H ((ev_bin (ev_name H (by repeat (first | exact lk_here | refine lk_there (by decide +kernel) ?_))) ev_int bin_and).cast (d' := .int ((v % 16 : Nat) : Int)) (congrArg D.int (and15 v))) (.inl rfl) (fun y a ds q => by cases q; decide +kernel) (run_pop (run_pop ?_))
            refine run_assign H ((ev_bin (ev_name H (by repeat (first | exact lk_here | refine lk_there (by decide +kernel) ?_))) ev_int bin_add).cast (d' := .int ((i + 1 : Nat) : Int)) (by simp)) (.inl rfl) (fun y a ds q => by cases q; decide +kernel) ?_
            exact run_turn ⟨rfl, rfl, rfl, by simp [St.set], lk_cons (by repeat (first | exact lk_here | refine lk_there (by decide +kernel) ?_)) (lk_cons (by repeat (first | exact lk_here | refine lk_there (by decide +kernel) ?_)) (lk_cons (by repeat (first | exact lk_here | refine lk_there (by decide +kernel) ?_)) (lk_cons (by repeat (first | exact lk_here | refine lk_there (by decide +kernel) ?_)) (lk_cons (by repeat (first | exact lk_here | refine lk_there (by decide +kernel) ?_)) lk_nil))))⟩
          · have hq1 : ¬ q = 1 := of_decide_eq_false h
            refine run_if (b := decide (q = 2)) ((tst_cmp (ev_name H (by repeat (first | exact lk_here | refine lk_there (by decide +kernel) ?_))) ev_int cmp_eq).cast (by rw [Bool.eq_iff_iff]; simp; omega)) (fun h => ?_) fun h => ?_
            · have hq2 : q = 2 := of_decide_eq_true h
              have hb := h3 hq2
              have he : astep (q, lc, p, out) x = (3, v % 4, 0, out ++ [lc * 16 + v / 4]) := by simp [astep, hx61, hv, hv64, hq2]
              rw [he]
              refine run_assign H ev_int (.inl rfl) (fun y a ds q => by cases q; decide +kernel) ?_
              refine run_append H rfl ((ev_bin (ev_bin (ev_name H (by repeat (first | exact lk_here | refine lk_there (by decide +kernel) ?_))) ev_int (bin_shl ⟨by decide, by decide, by omega⟩)) ((ev_bin (ev_name H (by repeat (first | exact lk_here | refine lk_there (by decide +kernel) ?_))) ev_int (bin_shr (by decide))).cast (d' := .int ((v / 4 : Nat) : Int)) (congrArg D.int (shift_eq v 2 _ rfl))) bin_or).cast (d' := dI (lc * 16 + v / 4)) (congrArg D.int (shl_or lc 4 _ _ rfl (by omega)))) ?_ (by simp; omega)
              refine run_assign H ((ev_bin (ev_name H (by repeat (first | exact lk_here | refine lk_there (by decide +kernel) ?_))) ev_int bin_and).cast (d' := .int ((v % 4 : Nat) : Int)) (congrArg D.int (and3 v))) (.inl rfl) (fun y a ds q => by cases q; decide +kernel) (run_pop (run_pop (run_pop ?_)))
              refine run_assign H ((ev_bin (ev_name H (by repeat (first | exact lk_here | refine lk_there (by decide +kernel) ?_))) ev_int bin_add).cast (d' := .int ((i + 1 : Nat) : Int)) (by simp)) (.inl rfl) (fun y a ds q => by cases q; decide +kernel) ?_
              exact run_turn ⟨rfl, rfl, rfl, by simp [St.set], lk_cons (by repeat (first | exact lk_here | refine lk_there (by decide +kernel) ?_)) (lk_cons (by repeat (first | exact lk_here | refine lk_there (by decide +kernel) ?_)) (lk_cons (by repeat (first | exact lk_here | refine lk_there (by decide +kernel) ?_)) (lk_cons (by repeat (first | exact lk_here | refine lk_there (by decide +kernel) ?_)) (lk_cons (by repeat (first | exact lk_here | refine lk_there (by decide +kernel) ?_)) lk_nil))))⟩
            · have hq2 : ¬ q = 2 := of_decide_eq_false h
              have hb := h4 (by omega)
              have he : astep (q, lc, p, out) x = (0, 0, 0, out ++ [lc * 64 + v]) := by simp [astep, hx61, hv, hv64, hq0, hq1, hq2]
              rw [he]
              refine run_assign H ev_int (.inl rfl) (fun y a ds q => by cases q; decide +kernel) ?_
              refine run_append H rfl ((ev_bin (ev_bin (ev_name H (by repeat (first | exact lk_here | refine lk_there (by decide +kernel) ?_))) ev_int (bin_shl ⟨by decide, by decide, by omega⟩)) (ev_name H (by repeat (first | exact lk_here | refine lk_there (by decide +kernel) ?_))) bin_or).cast (d' := dI (lc * 64 + v)) (congrArg D.int (shl_or lc 6 _ _ rfl (by omega)))) ?_ (by simp; omega)
              refine run_assign H ev_int (.inl rfl) (fun y a ds q => by cases q; decide +kernel) (run_pop (run_pop (run_pop ?_)))
              refine run_assign H ((ev_bin (ev_name H (by repeat (first | exact lk_here | refine lk_there (by decide +kernel) ?_))) ev_int bin_add).cast (d' := .int ((i + 1 : Nat) : Int)) (by simp)) (.inl rfl) (fun y a ds q => by cases q; decide +kernel) ?_
              exact run_turn ⟨rfl, rfl, rfl, by simp [St.set], lk_cons (by repeat (first | exact lk_here | refine lk_there (by decide +kernel) ?_)) (lk_cons (by repeat (first | exact lk_here | refine lk_there (by decide +kernel) ?_)) (lk_cons (by repeat (first | exact lk_here | refine lk_there (by decide +kernel) ?_)) (lk_cons (by repeat (first | exact lk_here | refine lk_there (by decide +kernel) ?_)) (lk_cons (by repeat (first | exact lk_here | refine lk_there (by decide +kernel) ?_)) lk_nil))))⟩
  · have hN : st (l.map dI).length = (q₁, lc₁, p₁, out₁) := by
      show (l.take _).foldl astep _ = _
      rw [List.take_of_length_le (by simp), hfold]
    have hok : AOk (q₁, lc₁, p₁, out₁) := hfold ▸ AOk.fold l _ AOk.zero
    have hlen := alen l (0, 0, 0, [])
    rw [hfold] at hlen
    simp only [List.length_nil] at hlen
    simp only [hN]
    refine run_if (b := false) ((tst_cmp (ev_name H (by repeat (first | exact lk_here | refine lk_there (by decide +kernel) ?_))) ev_int cmp_eq).cast (by rw [beq_eq_false_iff_ne]; omega)) (fun h => absurd h (by decide)) fun _ => run_pop ?_
    refine run_if (b := false) ((tst_and (tst_cmp (ev_name H (by repeat (first | exact lk_here | refine lk_there (by decide +kernel) ?_))) ev_int cmp_ne_int) fun _ => tst_cmp (ev_bin (ev_name H (by repeat (first | exact lk_here | refine lk_there (by decide +kernel) ?_))) (ev_name H (by repeat (first | exact lk_here | refine lk_there (by decide +kernel) ?_))) bin_add) ev_int cmp_lt).cast ?_) (fun h => absurd h (by decide)) fun _ => run_pop ?_
    · rw [Bool.and_eq_false_iff]
      rcases hq with hq | hq
      · left; simp; omega
      · right; simp; omega
    refine run_freeze rfl rfl (fun _ h => h) haT (run_ret (ev_bt H rfl g_bytes (.cons ((ev_name H (by repeat (first | exact lk_here | refine lk_there (by decide +kernel) ?_))).cast (congrArg D.list (dI_map out₁))) .nil) (bc_bytes R.handled ?_ ?_)))
    · intro n hn'
      obtain ⟨m, hm, rfl⟩ := List.mem_map.mp hn'
      have := hok.2.2.2.2 m hm
      omega
    · simp; omega

end Mine
/- part B20 -/
namespace Mine
open PySem PySem.W PySem.Calls PyProof.Rows
variable {b0 : Nat}
theorem fn_b64encode {prog : Program} {w : World} {b : Array UInt8} (hz : b.size ≤ 10000) : Fn b0 prog w 3 115 [.bytes b] [] (.bytes (byteArr ((b2a (b.toList.map (·.toNat))).map fun n : Nat => (n : Int)))) := by
  refine fn_of (k := 2) ["s", "altchars"] [] (hK := rfl) (by kernel_rfl) rfl rfl rfl rfl rfl rfl rfl (by kernel_rfl) (by decide +kernel) [("s", .bytes b), ("altchars", .none)] rfl
    (bind_dflt (Tu := 108) (xs := [.none]) (n0 := 1) (es := [.none]) rfl rfl rfl (fun g => .cons .none .nil) rfl rfl (fun vs hv => by match vs, hv with | [v], _ => exact ⟨_, rfl, rfl⟩)) fun A L h₀ T R H => ?_
  refine run_assign H (ev_callkw H R rfl g_b2a (by kernel_rfl) (fn_b2a hz) (.cons (ev_name H (by repeat (first | exact lk_here | refine lk_there (by decide +kernel) ?_))) .nil) ev_bool) (.inl rfl) (fun _ _ _ q => by cases q) ?_
  refine run_if (tst_cmp (ev_name H (by repeat (first | exact lk_here | refine lk_there (by decide +kernel) ?_))) ev_none cmp_isNot_none) (fun h => absurd h (by decide)) fun _ => run_pop ?_
  exact run_ret (ev_name H (by repeat (first | exact lk_here | refine lk_there (by decide +kernel) ?_)))
theorem fn_b64decode {prog : Program} {w : World} {b : Array UInt8} {q₁ lc₁ p₁ : Nat} {out₁ : List Nat} (hz : b.size ≤ 50000) (hfold : (b.toList.map (·.toNat)).foldl astep (0, 0, 0, []) = (q₁, lc₁, p₁, out₁)) (hq1 : q₁ ≠ 1) (hq : q₁ = 0 ∨ 4 ≤ q₁ + p₁) :
    Fn b0 prog w 3 123 [.bytes b] [] (.bytes (byteArr (out₁.map fun n : Nat => (n : Int)))) := by
  refine fn_of (k := 2) ["s", "altchars", "validate"] [] (hK := rfl) (by kernel_rfl) rfl rfl rfl rfl rfl rfl rfl (by kernel_rfl) (by decide +kernel) [("s", .bytes b), ("altchars", .none), ("validate", .bool false)] rfl
    (bind_dflt (Tu := 116) (xs := [.none, .bool false]) (n0 := 1) (es := [.none, .bool false]) rfl rfl rfl (fun g => .cons .none (.cons (.bool _) .nil)) rfl rfl (fun vs hv => by match vs, hv with | [v], _ => exact ⟨_, rfl, rfl⟩)) fun A L h₀ T R H => ?_
  refine run_assign H (ev_call H (R.mono (by decide)) rfl g_from_decode (hK := rfl) (fn_from_decode (b := b)) (.cons (ev_name H (by repeat (first | exact lk_here | refine lk_there (by decide +kernel) ?_))) .nil)) (.inl rfl) (fun _ _ _ q => by cases q) ?_
  refine run_if (tst_cmp (ev_name H (by repeat (first | exact lk_here | refine lk_there (by decide +kernel) ?_))) ev_none cmp_isNot_none) (fun h => absurd h (by decide)) fun _ => run_pop ?_
  exact run_ret (ev_callkw H R rfl g_a2b (by kernel_rfl) (fn_a2b hz hfold hq1 hq) (.cons (ev_name H (by repeat (first | exact lk_here | refine lk_there (by decide +kernel) ?_))) .nil) (ev_name H (by repeat (first | exact lk_here | refine lk_there (by decide +kernel) ?_))))

end Mine
/- part B21 -/
namespace Mine
open PySem PySem.W PySem.Calls PyProof.Rows
variable {b0 : Nat}
theorem nofree {sc : Scope} {P : Str → Prop} (h : (sc.names.all fun p => p.2 != .free) = true) : ∀ n, (n, NameKind.free) ∈ sc.names → P n := fun n hn => by
  have := List.all_eq_true.mp h _ hn
  simp at this
theorem compok {c : Cx} {sc : Scope} (h1 : sc.kind = .function) (h2 : (sc.names.all fun x => x.2 != .local || sc.names.lookup x.1 == some .local) = true) (h3 : ∀ n, (n, NameKind.free) ∈ sc.names → ∃ a, c.env.cells.lookup n = some a) : CompOk c sc := ⟨h1, fun x hx hl => by
  have := List.all_eq_true.mp h2 x hx
  rw [hl] at this
  simpa using this, h3⟩
theorem capt_nil {c : Cx} {S : St} {sc : Scope} : Capt c S sc [] := fun y d h => by cases h
def fstD (x : D) : List D → D
  | [] => x
  | d :: _ => d

/-- an order -/
inductive Ord where
  | txt (x : Str)
  | oct (b : Array UInt8)
  | num (n : Nat)
  | op (k : Nat)
def Ord.d : Ord → D
  | .txt x => .tup [.int 0, .str x]
  | .oct b => .tup [.int 1, .bytes b]
  | .num n => .tup [.int 2, dI n]
  | .op k => .tup [dI k, .none]
def Ord.ok : Ord → Prop
  | .txt x => x.length ≤ 255 ∧ ∀ c ∈ x.cps.toList, c < 256
  | .oct b => b.size ≤ 255
  | .num n => n < 256
  | .op k => k = 3 ∨ k = 4 ∨ k = 5
def ordOf : D → Ord
  | .tup [.int k, .none] => .op k.toNat
  | .tup [.int 0, .str x] => .txt x
  | .tup [.int 1, .bytes b] => .oct b
  | .tup [.int 2, .int n] => .num n.toNat
  | _ => .op 3
theorem ordOf_d : ∀ o : Ord, ordOf o.d = o
  | .txt x => rfl
  | .oct b => rfl
  | .num n => rfl
  | .op k => rfl
def cells : Ord → List Nat
  | .txt x => 0 :: x.length :: x.cps.toList
  | .oct b => 1 :: b.size :: b.toList.map (·.toNat)
  | .num n => [2, n]
  | .op k => [k]
def ordF : D → D
  | .str x => dI (x.cps.getD 0 0)
  | d => d
section
variable {prog : Program} {w : World}
theorem plain2 {fd : FuncData} {p q : Str} (h : ∀ v u : Value, bindArgs fd ⟨[v, u], []⟩ = pure [(p, v), (q, u)]) : ∀ vs : List Value, vs.length = [p, q].length → bindArgs fd ⟨vs, []⟩ = pure ([p, q].zip vs)
  | [v, u], _ => h v u
theorem fn_cells {r : Ord} (hr : r.ok) : Fn b0 prog w 2 142 [r.d] [] (.list ((cells r).map dI)) := by
  refine fn_of (k := 1) ["order"] [] (hK := rfl) (by kernel_rfl) rfl rfl rfl rfl rfl rfl rfl (by kernel_rfl) (by decide) [("order", r.d)] rfl (bind_plain (plain1 fun v => rfl) rfl) fun A L h₀ T R H => ?_
  cases r with
  | txt x =>
    refine run_pair (d₁ := .int 0) (d₂ := .str x) H R.handled (ev_name H (by repeat (first | exact lk_here | refine lk_there (by decide +kernel) ?_))) rfl rfl (fun _ _ _ q => by cases q) (fun _ _ _ q => by cases q) ?_
    refine run_if (tst_cmp (ev_name H (by repeat (first | exact lk_here | refine lk_there (by decide +kernel) ?_))) ev_int cmp_eq) (fun _ => ?_) (fun h => absurd h (by decide))
    have hf : (x.cps.toList.map fun n => D.str ⟨#[n]⟩).map ordF = x.cps.toList.map dI := by rw [List.map_map]; rfl
    refine run_ret ((ev_bin (ev_list (.cons ev_int (.cons (ev_bn H rfl g_len (.cons (ev_name H (by repeat (first | exact lk_here | refine lk_there (by decide +kernel) ?_))) .nil) (bc_len_str (by have := hr.1; omega))) .nil)))
      (ev_comp H R.handled (fun _ => true) ordF [] (compok rfl (by kernel_rfl) (nofree rfl)) capt_nil (src_ev (ev_name H (by repeat (first | exact lk_here | refine lk_there (by decide +kernel) ?_))) (pyit_str R.handled)) (fun C => .inl rfl) (fun C h₀ a i d hd _ H => ⟨.inl ⟨rfl, rfl⟩, fun _ => ?_⟩) (by have := hr.1; simp [Str.length] at this ⊢; omega) rfl) (bin_list ?_)).cast ?_)
    · obtain ⟨n, _, rfl⟩ : ∃ n, x.cps.toList[i]? = some n ∧ D.str ⟨#[n]⟩ = d := by simpa using hd
      exact ev_bn H rfl g_ord (.cons (ev_name H (by repeat (first | exact lk_here | refine lk_there (by decide +kernel) ?_))) .nil) (bc_ord rfl)
    · rw [PySem.W.filter_tt]; have := hr.1; simp [Str.length] at this ⊢; omega
    · rw [PySem.W.filter_tt, hf]; rfl
  | oct b =>
    refine run_pair (d₁ := .int 1) (d₂ := .bytes b) H R.handled (ev_name H (by repeat (first | exact lk_here | refine lk_there (by decide +kernel) ?_))) rfl rfl (fun _ _ _ q => by cases q) (fun _ _ _ q => by cases q) ?_
    refine run_if (tst_cmp (ev_name H (by repeat (first | exact lk_here | refine lk_there (by decide +kernel) ?_))) ev_int cmp_eq) (fun h => absurd h (by decide)) fun _ => run_pop ?_
    refine run_if (tst_cmp (ev_name H (by repeat (first | exact lk_here | refine lk_there (by decide +kernel) ?_))) ev_int cmp_eq) (fun _ => ?_) (fun h => absurd h (by decide))
    have hr' : b.size ≤ 255 := hr
    refine run_ret ((ev_bin (ev_list (.cons ev_int (.cons (ev_bn H rfl g_len (.cons (ev_name H (by repeat (first | exact lk_here | refine lk_there (by decide +kernel) ?_))) .nil) (bc_len_bytes (by omega))) .nil)))
      (ev_comp H R.handled (fun _ => true) id [] (compok rfl (by kernel_rfl) (nofree rfl)) capt_nil (src_ev (ev_name H (by repeat (first | exact lk_here | refine lk_there (by decide +kernel) ?_))) (pyit_bytes R.handled)) (fun C => .inl rfl) (fun C h₀ a i d hd _ H => ⟨.inl ⟨rfl, rfl⟩, fun _ => (ev_name H (by repeat (first | exact lk_here | refine lk_there (by decide +kernel) ?_)))⟩) (by simp; omega) rfl) (bin_list (by rw [PySem.W.filter_tt]; simp; omega))).cast ?_)
    rw [PySem.W.filter_tt, List.map_id]
    simp [cells, dI]
  | num n =>
    refine run_pair (d₁ := .int 2) (d₂ := dI n) H R.handled (ev_name H (by repeat (first | exact lk_here | refine lk_there (by decide +kernel) ?_))) rfl rfl (fun _ _ _ q => by cases q) (fun _ _ _ q => by cases q) ?_
    refine run_if (tst_cmp (ev_name H (by repeat (first | exact lk_here | refine lk_there (by decide +kernel) ?_))) ev_int cmp_eq) (fun h => absurd h (by decide)) fun _ => run_pop ?_
    refine run_if (tst_cmp (ev_name H (by repeat (first | exact lk_here | refine lk_there (by decide +kernel) ?_))) ev_int cmp_eq) (fun h => absurd h (by decide)) fun _ => run_pop ?_
    exact run_ret (ev_if (tst_cmp (ev_name H (by repeat (first | exact lk_here | refine lk_there (by decide +kernel) ?_))) ev_int cmp_eq) (fun _ => ev_list (.cons ev_int (.cons (ev_name H (by repeat (first | exact lk_here | refine lk_there (by decide +kernel) ?_))) .nil))) (fun h => absurd h (by decide)))
  | op k =>
    refine run_pair (d₁ := dI k) (d₂ := .none) H R.handled (ev_name H (by repeat (first | exact lk_here | refine lk_there (by decide +kernel) ?_))) rfl rfl (fun _ _ _ q => by cases q) (fun _ _ _ q => by cases q) ?_
    have h0 : ((k : Int) == 0) = false := by rw [beq_eq_false_iff_ne]; rcases hr with rfl | rfl | rfl <;> decide
    have h1 : ((k : Int) == 1) = false := by rw [beq_eq_false_iff_ne]; rcases hr with rfl | rfl | rfl <;> decide
    have h2 : ((k : Int) == 2) = false := by rw [beq_eq_false_iff_ne]; rcases hr with rfl | rfl | rfl <;> decide
    refine run_if ((tst_cmp (a := .int (k : Int)) (ev_name H (by repeat (first | exact lk_here | refine lk_there (by decide +kernel) ?_))) ev_int cmp_eq).cast h0) (fun h => absurd h (by decide)) fun _ => run_pop ?_
    refine run_if ((tst_cmp (a := .int (k : Int)) (ev_name H (by repeat (first | exact lk_here | refine lk_there (by decide +kernel) ?_))) ev_int cmp_eq).cast h1) (fun h => absurd h (by decide)) fun _ => run_pop ?_
    exact run_ret (ev_if ((tst_cmp (a := .int (k : Int)) (ev_name H (by repeat (first | exact lk_here | refine lk_there (by decide +kernel) ?_))) ev_int cmp_eq).cast h2) (fun h => absurd h (by decide)) fun _ => ev_list (.cons (ev_name H (by repeat (first | exact lk_here | refine lk_there (by decide +kernel) ?_))) .nil))
end

end Mine
/- part B22 -/
namespace Mine
open PySem PySem.W PySem.Calls PyProof.Rows
variable {b0 : Nat}
def digits : Str := "0123456789abcdef"
def hx (n : Nat) : Str := ⟨#[digits.cps.getD n 0]⟩
def hex2 (n : Nat) : Str := hx (n / 16) ++ hx (n % 16)
def hexF : D → D
  | .int i => .str (hex2 i.toNat)
  | d => d
def hexed (b : Array UInt8) : Str := Txt.join "" (b.toList.map fun o => hex2 o.toNat)
def numText (n : Nat) : Str := toString (n : Int)
def dP (ps : List Str) : D := .list (ps.map D.str)
/-- the pile behind an order -/
def laid (ps : List Str) : Ord → List Str
  | .txt x => ps ++ [x]
  | .oct b => ps ++ [hexed b]
  | .num n => ps ++ [numText n]
  | .op k => if k = 5 then ps ++ ps.drop (ps.length - 1) else if 1 < ps.length then (if k = 3 then ps.take (ps.length - 2) ++ [ps.getD (ps.length - 2) "" ++ ps.getD (ps.length - 1) ""] else ps.take (ps.length - 2) ++ [ps.getD (ps.length - 1) "", ps.getD (ps.length - 2) ""]) else ps
theorem hx_at {n : Nat} (h : n < 16) : digits.cps[n]? = some (digits.cps.getD n 0) := by
  have : n < digits.cps.size := h
  rw [Array.getD_eq_getD_getElem?, Array.getElem?_eq_getElem this]; rfl
theorem fdiv16 (n : Nat) : (n : Int).fdiv 16 = ((n / 16 : Nat) : Int) := by
  rw [Int.fdiv_eq_ediv_of_nonneg _ (by decide)]; omega
theorem fmod16 (n : Nat) : (n : Int).fmod 16 = ((n % 16 : Nat) : Int) := by
  rw [Int.fmod_eq_emod_of_nonneg _ (by decide)]; omega
theorem cut_to {α : Type} (l : List α) (k : Nat) : cut l none (some (k : Int)) = l.take k := by
  unfold cut
  simp only [Option.elim_none, Option.elim_some, List.drop_zero, clipAt_nat, Nat.sub_zero]
  rcases Nat.le_total k l.length with h | h
  · rw [Nat.min_eq_left h]
  · rw [Nat.min_eq_right h, List.take_of_length_le (Nat.le_refl _), List.take_of_length_le h]
theorem cut_from {α : Type} (l : List α) (k : Nat) : cut l (some (k : Int)) none = l.drop k := by
  unfold cut
  simp only [Option.elim_none, Option.elim_some, clipAt_nat]
  rcases Nat.le_total k l.length with h | h
  · rw [Nat.min_eq_left h, List.take_of_length_le (by simp)]
  · rw [Nat.min_eq_right h, List.drop_of_length_le (Nat.le_refl _), List.drop_of_length_le h]; simp
theorem cut_last {α : Type} (l : List α) : cut l (some (-1)) none = l.drop (l.length - 1) := by
  unfold cut
  have := clipAt_neg l.length 1 (by decide)
  simp only [Option.elim_none, Option.elim_some]
  rw [show (-1 : Int) = -((1 : Nat) : Int) from rfl, this, List.take_of_length_le (by simp)]
theorem cut_but2 {α : Type} (l : List α) : cut l none (some (-2)) = l.take (l.length - 2) := by
  unfold cut
  have := clipAt_neg l.length 2 (by decide)
  simp only [Option.elim_none, Option.elim_some, List.drop_zero, Nat.sub_zero]
  rw [show (-2 : Int) = -((2 : Nat) : Int) from rfl, this]
theorem log_small : ∀ n, n < 256 → n.log2 < 1920 := by decide +kernel
section
variable {prog : Program} {w : World}
theorem fn_laid {r : Ord} {ps : List Str} (hr : r.ok) (hp : ∀ x ∈ ps, x.length ≤ 8000) (hn : ps.length ≤ 1000) : Fn b0 prog w 2 166 [dP ps, r.d] [] (dP (laid ps r)) := by
  refine fn_of (k := 1) ["pile", "order"] [] (hK := rfl) (by kernel_rfl) rfl rfl rfl rfl rfl rfl rfl (by kernel_rfl) (by decide) [("pile", dP ps), ("order", r.d)] rfl (bind_plain (plain2 fun v u => rfl) rfl) fun A L h₀ T R H => ?_
  have hlen : (ps.map D.str).length ≤ 1000 := by simpa using hn
  cases r with
  | txt x =>
    refine run_pair (d₁ := .int 0) (d₂ := .str x) H R.handled (ev_name H (by repeat (first | exact lk_here | refine lk_there (by decide +kernel) ?_))) rfl rfl (fun _ _ _ q => by cases q) (fun _ _ _ q => by cases q) ?_
    refine run_if (tst_cmp (ev_name H (by repeat (first | exact lk_here | refine lk_there (by decide +kernel) ?_))) ev_int cmp_eq) (fun h => absurd h (by decide)) fun _ => run_pop ?_
    refine run_if (b := true) ((tst_cmp (a := .int 0) (ev_name H (by repeat (first | exact lk_here | refine lk_there (by decide +kernel) ?_))) (ev_list (.cons ev_int (.cons ev_int .nil))) (cmp_in_ints (ns := [0, 2]))).cast rfl) (fun _ => ?_) (fun h => absurd h (by decide))
    refine run_ret ((ev_bin (ev_name H (by repeat (first | exact lk_here | refine lk_there (by decide +kernel) ?_))) (ev_list (.cons (ev_if (tst_cmp (ev_name H (by repeat (first | exact lk_here | refine lk_there (by decide +kernel) ?_))) ev_int cmp_eq) (fun _ => (ev_name H (by repeat (first | exact lk_here | refine lk_there (by decide +kernel) ?_)))) (fun h => absurd h (by decide))) .nil)) (bin_list (by simp; omega))).cast ?_)
    simp [dP, laid]
  | oct b =>
    have hr' : b.size ≤ 255 := hr
    refine run_pair (d₁ := .int 1) (d₂ := .bytes b) H R.handled (ev_name H (by repeat (first | exact lk_here | refine lk_there (by decide +kernel) ?_))) rfl rfl (fun _ _ _ q => by cases q) (fun _ _ _ q => by cases q) ?_
    refine run_if (tst_cmp (ev_name H (by repeat (first | exact lk_here | refine lk_there (by decide +kernel) ?_))) ev_int cmp_eq) (fun _ => ?_) (fun h => absurd h (by decide))
    have hf : (b.toList.map fun x => D.int (x.toNat : Int)).map hexF = (b.toList.map fun o => hex2 o.toNat).map D.str := by rw [List.map_map, List.map_map]; rfl
    refine run_ret ((ev_bin (ev_name H (by repeat (first | exact lk_here | refine lk_there (by decide +kernel) ?_))) (ev_list (.cons (ev_meth ev_str mt_join (.cons
      ((ev_comp H R.handled (fun _ => true) hexF [] (compok rfl (by kernel_rfl) (nofree rfl)) capt_nil (src_ev (ev_name H (by repeat (first | exact lk_here | refine lk_there (by decide +kernel) ?_))) (pyit_bytes R.handled)) (fun C => .inl rfl) (fun C h₀ a i d hd _ H => ⟨.inl ⟨rfl, rfl⟩, fun _ => ?_⟩) (by simp; omega) rfl).cast (congrArg D.list ((congrArg (List.map hexF) (PySem.W.filter_tt _)).trans hf))) .nil) (bc_join ?_)) .nil)) (bin_list (by simp; omega))).cast ?_)
    · obtain ⟨n, _, rfl⟩ : ∃ n, b.toList[i]? = some n ∧ D.int (n.toNat : Int) = d := by simpa using hd
      have h256 := UInt8.toNat_lt n
      refine (ev_bin (ev_item ev_str ((ev_bin (ev_name H (by repeat (first | exact lk_here | refine lk_there (by decide +kernel) ?_))) ev_int (bin_div ⟨by decide, by decide⟩)).cast (congrArg D.int (fdiv16 _))) (it_str rfl (hx_at (by omega)) (by decide)))
        (ev_item ev_str ((ev_bin (ev_name H (by repeat (first | exact lk_here | refine lk_there (by decide +kernel) ?_))) ev_int (bin_mod (by decide))).cast (congrArg D.int (fmod16 _))) (it_str rfl (hx_at (by omega)) (by decide))) (bin_str (by show 1 + 1 ≤ 16384; decide))).cast ?_
      show D.str _ = D.str (hex2 _)
      rw [Int.toNat_natCast]; rfl
    · have : ∀ l : List UInt8, ((l.map fun o => hex2 o.toNat).map (·.length)).sum = 2 * l.length := by
        intro l
        induction l with
        | nil => rfl
        | cons o l ih =>
          rw [List.map_cons, List.map_cons, List.sum_cons, ih, List.length_cons]
          have : (hex2 o.toNat).length = 2 := by rw [hex2, PyProof.Rows.len_cat]; rfl
          omega
      rw [this]
      have h0 : ("" : Str).length = 0 := by decide
      rw [h0]
      simp
      omega
    · simp [dP, laid, hexed]
  | num n =>
    have hr' : n < 256 := hr
    refine run_pair (d₁ := .int 2) (d₂ := dI n) H R.handled (ev_name H (by repeat (first | exact lk_here | refine lk_there (by decide +kernel) ?_))) rfl rfl (fun _ _ _ q => by cases q) (fun _ _ _ q => by cases q) ?_
    refine run_if (tst_cmp (ev_name H (by repeat (first | exact lk_here | refine lk_there (by decide +kernel) ?_))) ev_int cmp_eq) (fun h => absurd h (by decide)) fun _ => run_pop ?_
    refine run_if (b := true) ((tst_cmp (a := .int 2) (ev_name H (by repeat (first | exact lk_here | refine lk_there (by decide +kernel) ?_))) (ev_list (.cons ev_int (.cons ev_int .nil))) (cmp_in_ints (ns := [0, 2]))).cast rfl) (fun _ => ?_) (fun h => absurd h (by decide))
    refine run_ret ((ev_bin (ev_name H (by repeat (first | exact lk_here | refine lk_there (by decide +kernel) ?_))) (ev_list (.cons (ev_if (tst_cmp (ev_name H (by repeat (first | exact lk_here | refine lk_there (by decide +kernel) ?_))) ev_int cmp_eq) (fun h => absurd h (by decide)) (fun _ => ev_bt H rfl g_str (.cons (ev_name H (by repeat (first | exact lk_here | refine lk_there (by decide +kernel) ?_))) .nil) (bc_str_int (by rw [Int.natAbs_natCast]; exact log_small n hr')))) .nil)) (bin_list (by simp; omega))).cast ?_)
    simp [dP, laid, numText]
  | op k =>
    refine run_pair (d₁ := dI k) (d₂ := .none) H R.handled (ev_name H (by repeat (first | exact lk_here | refine lk_there (by decide +kernel) ?_))) rfl rfl (fun _ _ _ q => by cases q) (fun _ _ _ q => by cases q) ?_
    have h1 : ((k : Int) == 1) = false := by rw [beq_eq_false_iff_ne]; rcases hr with rfl | rfl | rfl <;> decide
    refine run_if ((tst_cmp (a := .int (k : Int)) (ev_name H (by repeat (first | exact lk_here | refine lk_there (by decide +kernel) ?_))) ev_int cmp_eq).cast h1) (fun h => absurd h (by decide)) fun _ => run_pop ?_
    refine run_if (b := false) ((tst_cmp (a := .int (k : Int)) (ev_name H (by repeat (first | exact lk_here | refine lk_there (by decide +kernel) ?_))) (ev_list (.cons ev_int (.cons ev_int .nil))) (cmp_in_ints (ns := [0, 2]))).cast (by rcases hr with rfl | rfl | rfl <;> decide)) (fun h => absurd h (by decide)) fun _ => run_pop ?_
    refine run_if (b := decide (k = 5)) ((tst_cmp (a := .int (k : Int)) (ev_name H (by repeat (first | exact lk_here | refine lk_there (by decide +kernel) ?_))) ev_int cmp_eq).cast (by rw [Bool.eq_iff_iff]; simp; omega)) (fun h => ?_) fun h => run_pop ?_
    · have hk : k = 5 := of_decide_eq_true h
      refine run_ret ((ev_bin (ev_name H (by repeat (first | exact lk_here | refine lk_there (by decide +kernel) ?_))) (ev_slice (ev_name H (by repeat (first | exact lk_here | refine lk_there (by decide +kernel) ?_))) (.some (ev_neg ev_int)) .none (sl_list (by omega))) (bin_list (by rw [cut_last]; simp; omega))).cast ?_)
      rw [cut_last]
      simp [dP, laid, hk]
    · have hk5 : ¬ k = 5 := of_decide_eq_false h
      refine run_if (b := decide (1 < ps.length)) ((tst_and (a := true) ((tst_cmp (a := .int (k : Int)) (ev_name H (by repeat (first | exact lk_here | refine lk_there (by decide +kernel) ?_))) (ev_list (.cons ev_int (.cons ev_int .nil))) (cmp_in_ints (ns := [3, 4]))).cast (by rcases hr with rfl | rfl | rfl <;> first | decide | exact absurd rfl hk5)) fun _ => tst_cmp (ev_bn H rfl g_len (.cons (ev_name H (by repeat (first | exact lk_here | refine lk_there (by decide +kernel) ?_))) .nil) (bc_len_list (by omega))) ev_int cmp_gt).cast ?_) (fun h => ?_) fun h => run_pop ?_
      · rw [Bool.true_and, decide_eq_decide]; simp; omega
      · have hlt1 : 1 < ps.length := of_decide_eq_true h
        have g1 : (ps.map D.str)[ps.length - 1]? = some (.str (ps.getD (ps.length - 1) "")) := by
          rw [List.getElem?_map, List.getD_eq_getElem?_getD, List.getElem?_eq_getElem (by omega)]; rfl
        have g2 : (ps.map D.str)[ps.length - 2]? = some (.str (ps.getD (ps.length - 2) "")) := by
          rw [List.getElem?_map, List.getD_eq_getElem?_getD, List.getElem?_eq_getElem (by omega)]; rfl
        have m1 : (ps.getD (ps.length - 1) "").length ≤ 8000 := by
          rw [List.getD_eq_getElem?_getD, List.getElem?_eq_getElem (by omega)]; exact hp _ (List.getElem_mem _)
        have m2 : (ps.getD (ps.length - 2) "").length ≤ 8000 := by
          rw [List.getD_eq_getElem?_getD, List.getElem?_eq_getElem (by omega)]; exact hp _ (List.getElem_mem _)
        have i1 : ∀ {c : Cx} {T : List Addr}, It b0 c T (.list (ps.map D.str)) (-1) (.str (ps.getD (ps.length - 1) "")) := it_list_neg (j := ps.length - 1) (by decide) (by simp; omega) g1 (by omega)
        have i2 : ∀ {c : Cx} {T : List Addr}, It b0 c T (.list (ps.map D.str)) (-2) (.str (ps.getD (ps.length - 2) "")) := it_list_neg (j := ps.length - 2) (by decide) (by simp; omega) g2 (by omega)
        have sl : (cut (ps.map D.str) none (some (-2))).length ≤ 1000 := by rw [cut_but2]; simp; omega
        by_cases hk3 : k = 3
        · subst hk3
          refine run_ret ((ev_bin (ev_slice (ev_name H (by repeat (first | exact lk_here | refine lk_there (by decide +kernel) ?_))) .none (.some (ev_neg ev_int)) (sl_list (by omega))) (ev_if (tst_cmp (a := .int 3) (ev_name H (by repeat (first | exact lk_here | refine lk_there (by decide +kernel) ?_))) ev_int cmp_eq) (fun _ => ev_list (.cons (ev_bin (ev_item (ev_name H (by repeat (first | exact lk_here | refine lk_there (by decide +kernel) ?_))) (ev_neg ev_int) i2) (ev_item (ev_name H (by repeat (first | exact lk_here | refine lk_there (by decide +kernel) ?_))) (ev_neg ev_int) i1) (bin_str (by omega))) .nil)) (fun h => absurd h (by decide))) (bin_list (by simp only [List.length_cons, List.length_nil]; omega))).cast ?_)
          rw [cut_but2]
          simp [dP, laid, hlt1]
        · have hk4 : k = 4 := by rcases hr with h | h | h <;> omega
          subst hk4
          refine run_ret ((ev_bin (ev_slice (ev_name H (by repeat (first | exact lk_here | refine lk_there (by decide +kernel) ?_))) .none (.some (ev_neg ev_int)) (sl_list (by omega))) (ev_if (tst_cmp (a := .int 4) (ev_name H (by repeat (first | exact lk_here | refine lk_there (by decide +kernel) ?_))) ev_int cmp_eq) (fun h => absurd h (by decide)) (fun _ => ev_list (.cons (ev_item (ev_name H (by repeat (first | exact lk_here | refine lk_there (by decide +kernel) ?_))) (ev_neg ev_int) i1) (.cons (ev_item (ev_name H (by repeat (first | exact lk_here | refine lk_there (by decide +kernel) ?_))) (ev_neg ev_int) i2) .nil)))) (bin_list (by simp only [List.length_cons, List.length_nil]; omega))).cast ?_)
          rw [cut_but2]
          simp [dP, laid, hlt1]
      · have h1 : ¬ 1 < ps.length := of_decide_eq_false h
        have : laid ps (.op k) = ps := by simp [laid, hk5, h1]
        rw [this]
        exact run_ret (ev_name H (by repeat (first | exact lk_here | refine lk_there (by decide +kernel) ?_)))
end

end Mine
/- part B23 -/
namespace Mine
open PySem PySem.W PySem.Calls PyProof.Rows
variable {b0 : Nat}
theorem capt_cons {c : Cx} {S : St} {sc : Scope} {σc : List (Str × D)} {x : Str} {d : D} (h1 : S.σ.lookup x = some d) (h2 : (x, NameKind.free) ∈ sc.names) (h3 : (sc.names.all fun p => p.1 != x || p.2 != .cell) = true) {k : NameKind} (h4 : c.env.kindOf x = some k) (hk : k ≠ .local)
    (h5 : (relabel sc c.env).names.lookup x = some .cell ∨ (relabel sc c.env).names.lookup x = some .free) (r : Capt c S sc σc) : Capt c S sc ((x, d) :: σc) := fun y e q => by
  rw [List.lookup_cons] at q
  cases hy : y == x with
  | true =>
    (first | exact clash hy q | exact none1 hy q | obtain rfl := one1 hy q | (rw [hy] at q; cases q))
    obtain rfl : y = x := by simpa using hy
    refine ⟨h1, h2, fun k hk e => ?_, fun e => by (first | exact clash h4 e | exact none1 h4 e | obtain rfl := one1 h4 e | (rw [h4] at e; cases e)); exact hk rfl, h5⟩
    have := List.all_eq_true.mp h3 _ hk
    rw [e] at this
    simp at this
  | false => rw [hy] at q; exact r y e q
def signL : List Str := ["a", "b", " ", "\"", "é", "ÿ", "\x00", "\n", "z", ""]
def figText (m : Nat) : Str := Txt.join "" ((toString (m : Int) : Str).cps.toList.map fun c => signL.getD (c - 48) "")
def figF : D → D
  | .str x => .str (signL.getD (x.cps.getD 0 0 - 48) "")
  | d => d
theorem fig_ok : ∀ m : Nat, m < 1000 → ((toString (m : Int) : Str).cps.all fun c => 48 ≤ c && c ≤ 57) = true ∧ (toString (m : Int) : Str).cps.size ≤ 3 := by decide +kernel
theorem fig_int : ∀ k, k < 10 → PySem.intText? ⟨#[48 + k]⟩ = some (k : Int) := by decide +kernel
theorem sign_ok : ∀ k, k < 10 → signL[k]? = some (signL.getD k "") ∧ (signL.getD k "").length ≤ 1 ∧ ((signL.getD k "").cps.all fun c => decide (c < 256)) = true := by decide +kernel

theorem join_flat (l : List Str) : (Txt.join "" l).cps.toList = (l.map fun x => x.cps.toList).flatten := by
  show (Builtin.Str.glued (PySem.Str.ofString "") l).cps.toList = _
  rw [StrLaws.glued_eq_join]
  have h0 : (PySem.Str.ofString "").cps = #[] := by decide
  induction l with
  | nil => rfl
  | cons a r ih =>
    cases r with
    | nil => simp [Str.join]
    | cons b r =>
      show (a ++ Str.ofString "" ++ Str.join (Str.ofString "") (b :: r)).cps.toList = _
      have : (a ++ Str.ofString "" ++ Str.join (Str.ofString "") (b :: r)).cps = a.cps ++ (Str.ofString "").cps ++ (Str.join (Str.ofString "") (b :: r)).cps := rfl
      rw [this, h0]
      simp only [Array.append_empty, Array.toList_append, ih]
      simp
theorem flat_le {β : Type} : ∀ (l : List (List β)) (n : Nat), (∀ x ∈ l, x.length ≤ n) → l.flatten.length ≤ l.length * n
  | [], n, h => by simp
  | a :: r, n, h => by
    have := flat_le r n fun x hx => h x (by simp [hx])
    have h2 := h a (by simp)
    rw [List.flatten_cons, List.length_append, List.length_cons, Nat.succ_mul]
    omega
theorem figText_ok {m : Nat} (h : m < 1000) : (figText m).length ≤ 3 ∧ ∀ c ∈ (figText m).cps.toList, c < 256 := by
  obtain ⟨h1, h2⟩ := fig_ok m h
  have key : ∀ c ∈ (toString (m : Int) : Str).cps.toList, 48 ≤ c ∧ c - 48 < 10 := fun c hc => by
    have := Array.all_eq_true_iff_forall_mem.mp h1 c (by simpa using hc)
    simp only [Bool.and_eq_true, decide_eq_true_eq] at this
    omega
  have hl : (figText m).length = (figText m).cps.toList.length := by simp [Str.length]
  rw [hl]
  unfold figText
  rw [join_flat, List.map_map]
  constructor
  · refine Nat.le_trans (flat_le _ 1 fun x hx => ?_) (by simpa using h2)
    obtain ⟨c, hc, rfl⟩ := List.mem_map.mp hx
    have := (sign_ok _ (key c hc).2).2.1
    simpa [Str.length] using this
  · intro c hc
    obtain ⟨x, hx, hcx⟩ := List.mem_flatten.mp hc
    obtain ⟨d, hd, rfl⟩ := List.mem_map.mp hx
    have := (sign_ok _ (key d hd).2).2.2
    have := Array.all_eq_true_iff_forall_mem.mp this c (by simpa using hcx)
    simpa using this

theorem nodup_one {env : Env} {n : Str} {a : Addr} (h : env.cells = [(n, a)]) : CellsNodup env := fun x c hx => by
  rw [h] at hx ⊢
  have := List.mem_singleton.mp hx
  cases this
  exact lk_here
/-- an order drawn from a number -/
def rest256 (x : Int) : Nat := ((x.fdiv 6).fmod 256).toNat
def drawn (x : Int) : Ord :=
  if x.fmod 6 = 0 then .txt (figText ((x.fdiv 6).natAbs % 1000)) else if x.fmod 6 = 1 then .oct (byteArr [(x.fdiv 6).fmod 256, 255 - (x.fdiv 6).fmod 256]) else if x.fmod 6 = 2 then .num (rest256 x) else .op (x.fmod 6).toNat
def base : List Ord := [.txt "it'sé", .oct #[0, 255], .num 200, .op 3, .op 4, .op 5, .op 3, .txt ""]
def orders (xs : List Int) : List Ord := base ++ xs.map drawn
theorem fmod6 (x : Int) : 0 ≤ x.fmod 6 ∧ x.fmod 6 < 6 := ⟨Int.fmod_nonneg_of_pos _ (by decide), Int.fmod_lt_of_pos _ (by decide)⟩
theorem fmod256 (x : Int) : 0 ≤ x.fmod 256 ∧ x.fmod 256 < 256 := ⟨Int.fmod_nonneg_of_pos _ (by decide), Int.fmod_lt_of_pos _ (by decide)⟩
theorem drawn_ok (x : Int) : (drawn x).ok := by
  unfold drawn
  have h6 := fmod6 x
  have h256 := fmod256 (x.fdiv 6)
  split
  · have := figText_ok (Nat.mod_lt (x.fdiv 6).natAbs (show 1000 > 0 by decide))
    exact ⟨by omega, this.2⟩
  split
  · show (byteArr _).size ≤ 255
    simp [byteArr]
  split
  · show rest256 x < 256
    unfold rest256; omega
  · show _ ∨ _ ∨ _
    omega
theorem base_ok : ∀ o ∈ base, o.ok := by
  intro o ho
  simp only [base, List.mem_cons, List.not_mem_nil, or_false] at ho
  rcases ho with rfl | rfl | rfl | rfl | rfl | rfl | rfl | rfl
  · exact ⟨by decide +kernel, by decide +kernel⟩
  · show _ ≤ _; decide
  · show _ < _; decide
  · exact .inl rfl
  · exact .inr (.inl rfl)
  · exact .inr (.inr rfl)
  · exact .inl rfl
  · exact ⟨by decide +kernel, by decide +kernel⟩
theorem orders_ok (xs : List Int) : ∀ o ∈ orders xs, o.ok := fun o ho => by
  rcases List.mem_append.mp ho with h | h
  · exact base_ok o h
  · obtain ⟨x, _, rfl⟩ := List.mem_map.mp h
    exact drawn_ok x
section
variable {prog : Program} {w : World}
theorem fn_orders {xs : List Int} (hn : xs.length ≤ 1000) : Fn b0 prog w 2 137 [.list (xs.map D.int)] [] (.list ((orders xs).map Ord.d)) := by
  refine fn_of (k := 1) ["numbers"] [] (hK := rfl) (by kernel_rfl) rfl rfl rfl rfl rfl rfl rfl (by kernel_rfl) (by decide) [("numbers", .list (xs.map D.int))] rfl (bind_plain (plain1 fun v => rfl) rfl) fun A L h₀ T R H => ?_
  refine run_assign (d := .list (signL.map D.str)) H (ev_list (.cons ev_str (.cons ev_str (.cons ev_str (.cons ev_str (.cons ev_str (.cons ev_str (.cons ev_str (.cons ev_str (.cons ev_str (.cons ev_str .nil))))))))))) (.inr ⟨rfl, _, rfl, Nat.lt_succ_self _⟩) (fun _ _ _ q => by cases q) ?_
  refine run_own H rfl (ds := base.map Ord.d) (.cons (ev_tup (.cons ev_int (.cons ev_str .nil))) (.cons (ev_tup (.cons ev_int (.cons ev_bytes .nil))) (.cons (ev_tup (.cons ev_int (.cons ev_int .nil))) (.cons (ev_tup (.cons ev_int (.cons ev_none .nil))) (.cons (ev_tup (.cons ev_int (.cons ev_none .nil)))
    (.cons (ev_tup (.cons ev_int (.cons ev_none .nil))) (.cons (ev_tup (.cons ev_int (.cons ev_none .nil))) (.cons (ev_tup (.cons ev_int (.cons ev_str .nil))) .nil)))))))) (.inl rfl) fun a haT => ?_
  refine run_for H (nodup_one rfl) (fun i => [("signs", .list (signL.map D.str))]) (fun i => some ("orders", a, (base ++ (xs.take i).map drawn).map Ord.d))
    (src_ev (ev_name H (by repeat (first | exact lk_here | refine lk_there (by decide +kernel) ?_))) (pyit_list R.handled)) (lk_cons (by repeat (first | exact lk_here | refine lk_there (by decide +kernel) ?_)) lk_nil) rfl (.inl rfl) (fun i y a ds q => by cases q; decide +kernel) ?_ ?_
  · intro h₁ i d hd
    obtain ⟨x, hx, rfl⟩ : ∃ x, xs[i]? = some x ∧ D.int x = d := by simpa using hd
    have hi : i < xs.length := by
      rcases Nat.lt_or_ge i xs.length with h' | h'
      · exact h'
      · (first | exact clash (List.getElem?_eq_none h') hx | exact none1 (List.getElem?_eq_none h') hx | obtain rfl := one1 (List.getElem?_eq_none h') hx | (rw [List.getElem?_eq_none h'] at hx; cases hx))
    generalize hs : x.fdiv 6 = s
    have hm : s.natAbs % 1000 < 1000 := Nat.mod_lt _ (by decide)
    have h256 := fmod256 s
    have h6 := fmod6 x
    refine run_assign H ((ev_bin (ev_name H (by repeat (first | exact lk_here | refine lk_there (by decide +kernel) ?_))) ev_int (bin_div ⟨by decide, by decide⟩)).cast (congrArg D.int hs)) (.inl rfl) (fun y a ds q => by cases q; decide +kernel) ?_
    have hchars : ∀ c ∈ (toString ((s.natAbs % 1000 : Nat) : Int) : Str).cps.toList, 48 ≤ c ∧ c - 48 < 10 := fun c hc => by
      have := Array.all_eq_true_iff_forall_mem.mp (fig_ok _ hm).1 c (by simpa using hc)
      simp only [Bool.and_eq_true, decide_eq_true_eq] at this
      omega
    have hz3 := (fig_ok _ hm).2
    have hf : ((toString ((s.natAbs % 1000 : Nat) : Int) : Str).cps.toList.map fun n => D.str ⟨#[n]⟩).map figF = ((toString ((s.natAbs % 1000 : Nat) : Int) : Str).cps.toList.map fun c => signL.getD (c - 48) "").map D.str := by rw [List.map_map, List.map_map]; rfl
    refine run_assign (d := .str (figText (s.natAbs % 1000))) H (ev_meth ev_str mt_join (.cons
      ((ev_comp H R.handled (fun _ => true) figF [("signs", .list (signL.map D.str))] (compok rfl (by kernel_rfl) ?hfree) (capt_cons (by repeat (first | exact lk_here | refine lk_there (by decide +kernel) ?_)) (by simp) (by kernel_rfl) rfl (by decide) (.inl rfl) capt_nil)
        (src_ev (ev_bt H rfl g_str (.cons ((ev_bin (ev_bn H rfl g_abs (.cons (ev_name H (by repeat (first | exact lk_here | refine lk_there (by decide +kernel) ?_))) .nil) bc_abs) ev_int (bin_mod (by decide))).cast (d' := .int ((s.natAbs % 1000 : Nat) : Int)) ?hmod) .nil) (bc_str_int ?hlog)) (pyit_str R.handled)) (fun C => .inl rfl) (fun C h₀ a i d hd _ H => ⟨.inl ⟨rfl, rfl⟩, fun _ => ?hturn⟩) ?hlen rfl).cast (congrArg D.list ((congrArg (List.map figF) (PySem.W.filter_tt _)).trans hf))) .nil) (bc_join ?hjoin)) (.inl rfl) (fun y a ds q => by cases q; decide +kernel) ?_
    case hfree =>
      intro n hn
      simp at hn
      subst hn
      exact ⟨_, rfl⟩
    case hmod => exact congrArg D.int (by rw [Int.fmod_eq_emod_of_nonneg _ (by decide)]; omega)
    case hlog => exact Nat.lt_of_le_of_lt (Nat.log2_le_self _) (by omega)
    case hturn =>
      obtain ⟨n, hn, rfl⟩ : ∃ n, (toString ((s.natAbs % 1000 : Nat) : Int) : Str).cps.toList[i]? = some n ∧ D.str ⟨#[n]⟩ = d := by simpa using hd
      obtain ⟨k1, k2⟩ := hchars n (List.mem_of_getElem? hn)
      have hi := fig_int _ k2
      rw [show 48 + (n - 48) = n by omega] at hi
      have hs := (sign_ok _ k2).1
      exact ev_item (ev_name H (by repeat (first | exact lk_here | refine lk_there (by decide +kernel) ?_))) (ev_bt H rfl g_int (.cons (ev_name H (by repeat (first | exact lk_here | refine lk_there (by decide +kernel) ?_))) .nil) (bc_int_text hi (by show 1 ≤ 640; decide))) (it_list rfl (by rw [List.getElem?_map, hs]; rfl) (by omega))
    case hlen => rw [List.length_map, Array.length_toList]; exact Nat.le_trans hz3 (by decide)
    case hjoin =>
      have : ∀ l : List Nat, (∀ c ∈ l, c - 48 < 10) → ((l.map fun c => signL.getD (c - 48) "").map (·.length)).sum ≤ l.length := by
        intro l hl
        induction l with
        | nil => exact Nat.le_refl _
        | cons c r ih =>
          have h1 := (sign_ok _ (hl c (by simp))).2.1
          have h2 := ih fun c hc => hl c (by simp [hc])
          rw [List.map_cons, List.map_cons, List.sum_cons, List.length_cons]
          omega
      have h1 := this _ fun c hc => (hchars c hc).2
      have h0 : ("" : Str).length = 0 := by decide
      rw [h0, Nat.mul_zero, Nat.add_zero]
      exact Nat.le_trans h1 (by rw [Array.length_toList]; exact Nat.le_trans hz3 (by decide))
    have hb8 : base.length = 8 := rfl
    have hsub : (255 : Int) - s.fmod 256 ≥ 0 := by omega
    refine run_append (d := (drawn x).d) H rfl ((ev_tup (.cons (ev_bin (ev_name H (by repeat (first | exact lk_here | refine lk_there (by decide +kernel) ?_))) ev_int (bin_mod (by decide))) (.cons (ev_item (od := .list [.str (figText (s.natAbs % 1000)), .bytes (byteArr [s.fmod 256, 255 - s.fmod 256]), .int (s.fmod 256), .none, .none, .none]) (i := x.fmod 6) (ev_list (.cons (ev_name H (by repeat (first | exact lk_here | refine lk_there (by decide +kernel) ?_))) (.cons (ev_bt H rfl g_bytes (.cons (ev_list (.cons (ev_bin (ev_name H (by repeat (first | exact lk_here | refine lk_there (by decide +kernel) ?_))) ev_int (bin_mod (by decide))) (.cons (ev_bin ev_int (ev_bin (ev_name H (by repeat (first | exact lk_here | refine lk_there (by decide +kernel) ?_))) ev_int (bin_mod (by decide))) bin_sub) .nil))) .nil) (bc_bytes (ns := [s.fmod 256, 255 - s.fmod 256]) R.handled ?hrange (by simp)))
      (.cons (ev_bin (ev_name H (by repeat (first | exact lk_here | refine lk_there (by decide +kernel) ?_))) ev_int (bin_mod (by decide))) (.cons ev_none (.cons ev_none (.cons ev_none .nil))))))) (ev_bin (ev_name H (by repeat (first | exact lk_here | refine lk_there (by decide +kernel) ?_))) ev_int (bin_mod (by decide))) (it_list (j := (x.fmod 6).toNat) (r := match (drawn x).d with | .tup [_, r] => r | _ => .none) (by omega) ?hitem (by omega))) .nil))).cast ?hd) ?_ (by simp; omega)
    case hrange =>
      intro n hn
      simp only [List.mem_cons, List.not_mem_nil, or_false] at hn
      rcases hn with rfl | rfl <;> omega
    case hitem =>
      unfold drawn rest256
      rw [hs]
      have : x.fmod 6 = 0 ∨ x.fmod 6 = 1 ∨ x.fmod 6 = 2 ∨ x.fmod 6 = 3 ∨ x.fmod 6 = 4 ∨ x.fmod 6 = 5 := by omega
      rcases this with e | e | e | e | e | e <;> rw [e]
      · rfl
      · rfl
      · show some (D.int (s.fmod 256)) = some (D.int (((s.fmod 256).toNat : Nat) : Int))
        rw [Int.toNat_of_nonneg h256.1]
      · rfl
      · rfl
      · rfl
    case hd =>
      unfold drawn rest256
      rw [hs]
      have : x.fmod 6 = 0 ∨ x.fmod 6 = 1 ∨ x.fmod 6 = 2 ∨ x.fmod 6 = 3 ∨ x.fmod 6 = 4 ∨ x.fmod 6 = 5 := by omega
      rcases this with e | e | e | e | e | e <;> rw [e] <;> rfl
    refine run_turn ⟨rfl, rfl, rfl, ?_, lk_cons (by repeat (first | exact lk_here | refine lk_there (by decide +kernel) ?_)) lk_nil⟩
    show some _ = some _
    have : xs.take (i + 1) = xs.take i ++ [x] := by
      rw [List.take_succ_eq_append_getElem hi]
      congr 1
      rw [List.getElem?_eq_getElem hi] at hx
      rw [Option.some.inj hx]
    rw [this]
    simp
  · have hN : xs.take (xs.map D.int).length = xs := List.take_of_length_le (by simp)
    simp only [hN]
    exact run_freeze rfl rfl (fun _ h => h) haT (run_ret (ev_name H (by repeat (first | exact lk_here | refine lk_there (by decide +kernel) ?_))))
end

end Mine
/- part B24 -/
namespace Mine
open PySem PySem.W PySem.Calls PyProof.Rows
variable {b0 : Nat}
section
variable {c : Cx} {S : St}
theorem size3 (n m : Nat) (hm : m = (n + 2) / 3) (hz : n < 2 ^ 40) : Builtin.Range.rangeSize 0 n 3 = (m : Int) ∧ Builtin.Range.small 0 n 3 = true := by
  have h3 : Builtin.Range.rangeSize 0 n 3 = (m : Int) := by
    unfold Builtin.Range.rangeSize
    simp only [show (3 : Int) > 0 by decide, if_true]
    split <;> omega
  refine ⟨h3, ?_⟩
  unfold Builtin.Range.small
  rw [h3]
  have fl : ∀ i : Int, 0 ≤ i → i < 2 ^ 62 → Builtin.Range.rangeFitsLong i = true := fun i h1 h2 => by
    unfold Builtin.Range.rangeFitsLong
    rw [Bool.and_eq_true, decide_eq_true_eq, decide_eq_true_eq]; omega
  rw [fl 0 (by omega) (by omega), fl n (by omega) (by omega), fl 3 (by omega) (by omega), fl m (by omega) (by omega), if_pos (by decide), fl (n + (3 - 1)) (by omega) (by omega)]
  simp
theorem src_range3 (H : EnvOk c.env) (hh : c.A.handled = none) (hk : c.env.kindOf "range" = some .globalImplicit) {e e' e'' : Expr} {p pos : Pos} {n m : Nat} (he : Ev b0 c S e (.int 0)) (he' : Ev b0 c S e' (.int (n : Int))) (he'' : Ev b0 c S e'' (.int 3)) (hm : m = (n + 2) / 3) (hz : n < 2 ^ 29)
    (hst : starEach [e, e', e''] c.env = [(false, eval e c.env), (false, eval e' c.env), (false, eval e'' c.env)] := by rfl) : Src b0 c S (.Call (.Name "range" p) [e, e', e''] [] pos) (rangeD 0 3 m) := ⟨fun s F =>
  Call_Name (trees := [(false, eval e c.env), (false, eval e' c.env), (false, eval e'' c.env)]) (by rw [hst]; rfl) (g_range.go _ _ _ _ _ _ _ H hk F.wd (by
    exact PyProof.Rows.callWith_type rfl (Calls.evalArgs_plain (Calls.spliced_cons (he.use F fun v s₁ e₁ F₁ A₁ => Calls.spliced_cons (he'.use F₁ fun v' s₂ e₂ F₂ A₂ => Calls.spliced_cons (he''.use F₂ fun v'' s₃ e₃ F₃ A₃ => Calls.spliced_nil (by
      cases A₁ with
      | int _ tk =>
        cases A₂ with
        | int _ tk' =>
          cases A₃ with
          | int _ tk'' =>
            have e4 : Ext b0 s₃ { s₃ with heap := s₃.heap.push { cls := .type "range", data := .fields #[.int 0 tk, .int n tk', .int 3 tk''] }, toks := s₃.toks } := Ext.push _
            exact call_range_3 (by decide) (range_itr hh (F₃.ext e4) (((e₁.trans e₂).trans e₃).trans e4) (IsRange.new ..) (size3 n m hm (by omega)).2 (size3 n m hm (by omega)).1) (.inl (PyProof.noPylong_small (by omega)))))))))))⟩
end

theorem nodup_of {env : Env} {l : List (Str × Addr)} {ns : List Str} (h : env.cells = l) (h2 : l.map (·.1) = ns) (h3 : ns.Nodup) : CellsNodup env := fun x c hx => by
  rw [h] at hx ⊢
  subst h2
  clear h
  induction l with
  | nil => cases hx
  | cons p r ih =>
    obtain ⟨n, a⟩ := p
    obtain ⟨k1, k2⟩ := List.nodup_cons.mp h3
    rw [List.lookup_cons]
    rcases List.mem_cons.mp hx with q | q
    · cases q; simp
    · have : (x == n) = false := by
        rw [beq_eq_false_iff_ne]
        rintro rfl
        exact k1 (List.mem_map.mpr ⟨_, q, rfl⟩)
      rw [this]
      exact ih q k2
theorem enc_app : ∀ (x y : List Nat), x.length % 3 = 0 → enc (x ++ y) = enc x ++ enc y
  | [], y, _ => rfl
  | [a], y, h => by simp at h
  | [a, b], y, h => by simp at h
  | a :: b :: c :: r, y, h => by
    have := enc_app r y (by simp at h; omega)
    simp [enc, this]
def tblS : Str := "ABCDEFGHIJKLMNOPQRSTUVWXYZabcdefghijklmnopqrstuvwxyz0123456789+/"
theorem tblS_at : ∀ n, n < 64 → tblS.cps[n]? = some (tblN n) := by decide +kernel
theorem mul_pad : ∀ n : Nat, n < 3 → (Txt.mul "=" (n : Int)).cps.toList = List.replicate n 61 := by decide +kernel
theorem mul_ok : ∀ n : Nat, n < 3 → MulOk "=" (n : Int) := fun n h => by
  have : n = 0 ∨ n = 1 ∨ n = 2 := by omega
  rcases this with rfl | rfl | rfl <;> (unfold MulOk; decide)
def quadF (bits : Nat) : D → D
  | .int p => .str ⟨#[tblN (bits / 64 ^ p.toNat % 64)]⟩
  | d => d
def quad (bits : Nat) : List Nat := [tblN (bits / 262144 % 64), tblN (bits / 4096 % 64), tblN (bits / 64 % 64), tblN (bits % 64)]
def Str.of (l : List Nat) : Str := ⟨l.toArray⟩
theorem q1 : ∀ a, a < 256 → (a * 65536 + 0 * 256 + 0) / 262144 % 64 = a / 4 ∧ (a * 65536 + 0 * 256 + 0) / 4096 % 64 = a % 4 * 16 := by decide +kernel
theorem q4 (a b c : Nat) : a * 65536 + b * 256 + c = (a * 256 + b) * 256 + c := by rw [Nat.add_mul, Nat.mul_assoc]
theorem q5 (a y k : Nat) : (a * (64 * (64 * k)) + y) / 64 % 64 = y / 64 % 64 := by
  rw [Nat.mul_left_comm, Nat.add_comm, Nat.add_mul_div_left _ _ (by decide), Nat.mul_left_comm, Nat.add_mul_mod_self_left]
theorem q6 (x c : Nat) : (x * 256 + c) % 64 = c % 64 := by
  rw [show x * 256 = 64 * (x * 4) by rw [Nat.mul_left_comm], Nat.mul_add_mod]
theorem q7 {a b c : Nat} (ha : a < 256) (hb : b < 256) (hc : c < 256) : (a * 65536 + b * 256 + c) / 262144 % 64 = a / 4 ∧ (a * 65536 + b * 256 + c) / 4096 % 64 = a % 4 * 16 + b / 16 ∧ (a * 65536 + b * 256 + c) / 64 % 64 = b % 16 * 4 + c / 64 ∧ (a * 65536 + b * 256 + c) % 64 = c % 64 := by
  have h2 := q2 a ha b hb
  refine ⟨?_, ?_, ?_, ?_⟩
  · rw [q4]; exact (congrArg (· % 64) (q3 (a * 256 + b) 1024 hc)).trans h2.1
  · rw [q4]; exact (congrArg (· % 64) (q3 (a * 256 + b) 16 hc)).trans h2.2.1
  · rw [Nat.add_assoc]; exact (q5 a (b * 256 + c) 16).trans (q2 b hb c hc).2.2
  · rw [q4]; exact q6 _ _
theorem chunk_enc {ch : List Nat} (h : ∀ x ∈ ch, x < 256) (h1 : 1 ≤ ch.length) (h3 : ch.length ≤ 3) :
    (quad (ch.getD 0 0 * 65536 + ch.getD 1 0 * 256 + ch.getD 2 0)).take (ch.length + 1) ++ List.replicate (3 - ch.length) 61 = enc ch ∧ (ch ++ [0, 0])[0]? = some (ch.getD 0 0) ∧ (ch ++ [0, 0])[1]? = some (ch.getD 1 0) ∧ (ch ++ [0, 0])[2]? = some (ch.getD 2 0) := by
  match ch, h1, h3 with
  | [a], _, _ =>
    have q := q1 a (h a (.head _))
    refine ⟨?_, rfl, rfl, rfl⟩
    show [tblN ((a * 65536 + 0 * 256 + 0) / 262144 % 64), tblN ((a * 65536 + 0 * 256 + 0) / 4096 % 64), 61, 61] = _
    rw [q.1, q.2]
    rfl
  | [a, b], _, _ =>
    have q := q7 (h a (.head _)) (h b (.tail _ (.head _))) (c := 0) (by decide)
    refine ⟨?_, rfl, rfl, rfl⟩
    show [tblN ((a * 65536 + b * 256 + 0) / 262144 % 64), tblN ((a * 65536 + b * 256 + 0) / 4096 % 64), tblN ((a * 65536 + b * 256 + 0) / 64 % 64), 61] = _
    rw [q.1, q.2.1, q.2.2.1]
    rfl
  | [a, b, c], _, _ =>
    have q := q7 (h a (.head _)) (h b (.tail _ (.head _))) (h c (.tail _ (.tail _ (.head _))))
    refine ⟨?_, rfl, rfl, rfl⟩
    show [tblN ((a * 65536 + b * 256 + c) / 262144 % 64), tblN ((a * 65536 + b * 256 + c) / 4096 % 64), tblN ((a * 65536 + b * 256 + c) / 64 % 64), tblN ((a * 65536 + b * 256 + c) % 64)] = _
    rw [q.1, q.2.1, q.2.2.1, q.2.2.2]
    rfl
theorem str_eq_of {x : Str} {l : List Nat} (h : x.cps.toList = l) : x = Str.of l := by
  obtain ⟨⟨a⟩⟩ := x
  simp at h
  subst h; rfl
theorem pow_le (p : Nat) (h : p < 4) : 0 < (64 : Int) ^ p ∧ (64 : Int) ^ p < 1073741824 := by
  have : p = 0 ∨ p = 1 ∨ p = 2 ∨ p = 3 := by omega
  rcases this with rfl | rfl | rfl | rfl <;> decide
section
variable {prog : Program} {w : World}
theorem fn_signs {l : List Nat} (hl : ∀ x ∈ l, x < 256) (hz : l.length ≤ 6000) : Fn b0 prog w 2 147 [.list (l.map dI)] [] (.str (Str.of (enc l))) := by
  refine fn_of (k := 1) ["octets"] [] (hK := rfl) (by kernel_rfl) rfl rfl rfl rfl rfl rfl rfl (by kernel_rfl) (by decide) [("octets", .list (l.map dI))] rfl (bind_plain (plain1 fun v => rfl) rfl) fun A L h₀ T R H => ?_
  refine run_assign (d := .str tblS) H ev_str (.inr ⟨rfl, _, rfl, Nat.lt_succ_self _⟩) (fun _ _ _ q => by cases q) ?_
  refine run_assign H ev_str (.inl rfl) (fun _ _ _ q => by cases q) ?_
  have hll : (l.map dI).length = l.length := List.length_map ..
  refine run_for H (nodup_of (ns := ["bits", "table"]) rfl rfl (by decide +kernel)) (fun i => [("table", .str tblS), ("text", .str (Str.of (enc (l.take (3 * i))))), ("octets", .list (l.map dI))]) (fun i => none)
    (src_range3 (n := l.length) (m := (l.length + 2) / 3) H R.handled rfl ev_int ((ev_bn H rfl g_len (.cons (ev_name H (by repeat (first | exact lk_here | refine lk_there (by decide +kernel) ?_))) .nil) (bc_len_list (by omega))).cast (by rw [hll])) ev_int rfl (by omega)) (lk_cons (by repeat (first | exact lk_here | refine lk_there (by decide +kernel) ?_)) (lk_cons (by repeat (first | exact lk_here | refine lk_there (by decide +kernel) ?_)) (lk_cons (by repeat (first | exact lk_here | refine lk_there (by decide +kernel) ?_)) lk_nil))) rfl (.inl rfl) (fun _ _ _ _ q => by cases q) ?_ ?_
  · intro h₁ i d hd
    have hi : i < (l.length + 2) / 3 := by
      rcases Nat.lt_or_ge i ((l.length + 2) / 3) with h' | h'
      · exact h'
      · rw [List.getElem?_eq_none (by simpa [rangeD, rangeInts] using h')] at hd; cases hd
    obtain rfl : d = .int ((3 * i : Nat) : Int) := by
      simp [rangeD, rangeInts, hi] at hd
      rw [← hd]; congr 1; omega
    generalize hch : (l.drop (3 * i)).take 3 = ch
    have hcl : ch.length = min 3 (l.length - 3 * i) := by rw [← hch, List.length_take, List.length_drop]
    have hc1 : 1 ≤ ch.length := by omega
    have hc3 : ch.length ≤ 3 := by omega
    have hclt : ∀ x ∈ ch, x < 256 := fun x hx => hl x (by rw [← hch] at hx; exact List.mem_of_mem_drop (List.mem_of_mem_take hx))
    obtain ⟨he, g0, g1, g2⟩ := chunk_enc hclt hc1 hc3
    have hstep : Str.of (enc (l.take (3 * (i + 1)))) = Str.of (enc (l.take (3 * i)) ++ enc ch) := by
      have : l.take (3 * (i + 1)) = l.take (3 * i) ++ ch := by rw [← hch, show 3 * (i + 1) = 3 * i + 3 by omega, List.take_add]
      rw [this, enc_app _ _ (by rw [List.length_take]; omega)]
    have hcut : ∀ {c : Cx} {S : St} {e : Expr} {lo hi : Option Expr} {p sp : Pos}, Ev b0 c S e (.list (l.map dI)) → Pt b0 c S lo (some ((3 * i : Nat) : Int)) → Pt b0 c S hi (some ((3 * i + 3 : Nat) : Int)) → Ev b0 c S (.Subscript e (.Slice lo hi none sp) p) (.list (ch.map dI)) := fun h1 h2 h3 =>
      (ev_slice h1 h2 h3 (sl_list (by omega))).cast (congrArg D.list (by
        unfold cut
        simp only [Option.elim_some, clipAt_nat, List.length_map]
        rw [← hch, List.map_take, List.map_drop, Nat.min_eq_left (show 3 * i ≤ l.length by omega)]
        rcases Nat.le_total (3 * i + 3) l.length with h | h
        · rw [Nat.min_eq_left h]; congr 1; omega
        · rw [Nat.min_eq_right h, List.take_of_length_le (by simp), List.take_of_length_le (by simp; omega)]))
    generalize ha : ch.getD 0 0 = a₀ at he g0
    generalize hb : ch.getD 1 0 = b₀ at he g1
    generalize hcc : ch.getD 2 0 = c₀ at he g2
    have gm : ∀ (j v : Nat), (ch ++ [0, 0])[j]? = some v → (ch.map dI ++ [D.int 0, D.int 0])[j]? = some (.int (v : Int)) := fun j v h => by
      have : ch.map dI ++ [D.int 0, D.int 0] = (ch ++ [0, 0]).map dI := by simp [dI]
      rw [this, List.getElem?_map, h]; rfl
    refine run_assign H (ev_bin (hcut (ev_name H (by repeat (first | exact lk_here | refine lk_there (by decide +kernel) ?_))) (.some (ev_name H (by repeat (first | exact lk_here | refine lk_there (by decide +kernel) ?_)))) (.some ((ev_bin (ev_name H (by repeat (first | exact lk_here | refine lk_there (by decide +kernel) ?_))) ev_int bin_add).cast (by simp)))) (ev_list (.cons ev_int (.cons ev_int .nil))) (bin_list (by simp; omega))) (.inl rfl) (fun _ _ _ q => by cases q) ?_
    refine run_assign (d := .int ((a₀ * 65536 + b₀ * 256 + c₀ : Nat) : Int)) H ((ev_bin (ev_bin (ev_bin (ev_item (ev_name H (by repeat (first | exact lk_here | refine lk_there (by decide +kernel) ?_))) ev_int (it_list (j := 0) rfl (gm _ _ g0) (by decide))) ev_int (bin_mul (by omega))) (ev_bin (ev_item (ev_name H (by repeat (first | exact lk_here | refine lk_there (by decide +kernel) ?_))) ev_int (it_list (j := 1) rfl (gm _ _ g1) (by decide))) ev_int (bin_mul (by omega))) bin_add) (ev_item (ev_name H (by repeat (first | exact lk_here | refine lk_there (by decide +kernel) ?_))) ev_int (it_list (j := 2) rfl (gm _ _ g2) (by decide))) bin_add).cast (congrArg D.int (by omega))) (.inr ⟨rfl, _, rfl, Nat.lt_succ_of_lt (Nat.lt_succ_self _)⟩) (fun _ _ _ q => by cases q) ?_
    generalize a₀ * 65536 + b₀ * 256 + c₀ = bits at he
    have hq : ([D.int 3, D.int 2, D.int 1, D.int 0].map (quadF bits)) = ((quad bits).map fun n => (⟨#[n]⟩ : Str)).map D.str := by
      simp [quadF, quad]
    have hjq : Txt.join "" ((quad bits).map fun n => (⟨#[n]⟩ : Str)) = Str.of (quad bits) := str_eq_of (by rw [join_flat]; simp [quad])
    have hpad := mul_pad (3 - ch.length) (by omega)
    have hq4 : (Str.of (quad bits)).cps.toList = quad bits := rfl
    have hel := enc_len (l.take (3 * i))
    have hel2 : (l.take (3 * i)).length ≤ l.length := by rw [List.length_take]; omega
    have hz0 : (Str.of (enc (l.take (3 * i)))).length = (enc (l.take (3 * i))).length := by rw [KWk.len_list]; rfl
    have hz4 : (⟨((Str.of (quad bits)).cps.toList.take (ch.length + 1)).toArray⟩ : Str).length ≤ 4 := by rw [KWk.len_list, hq4]; simp [quad]; omega
    have hzp : (Txt.mul "=" ((3 - ch.length : Nat) : Int)).length ≤ 3 := by rw [KWk.len_list, hpad]; simp
    refine run_assign (d := .str (Str.of (enc (l.take (3 * (i + 1)))))) H ((ev_bin (ev_bin (ev_name H (by repeat (first | exact lk_here | refine lk_there (by decide +kernel) ?_))) (ev_slice ((ev_meth ev_str mt_join (.cons ((ev_comp H R.handled (fun _ => true) (quadF bits) [("table", .str tblS), ("bits", .int (bits : Int))] (compok rfl (by kernel_rfl) ?hfree) (capt_cons (by repeat (first | exact lk_here | refine lk_there (by decide +kernel) ?_)) (by simp) (by kernel_rfl) rfl (by decide) (.inl rfl) (capt_cons (by repeat (first | exact lk_here | refine lk_there (by decide +kernel) ?_)) (by simp) (by kernel_rfl) rfl (by decide) (.inl rfl) capt_nil))
        (src_ev (ev_list (.cons ev_int (.cons ev_int (.cons ev_int (.cons ev_int .nil))))) (pyit_list R.handled)) (fun C => .inl rfl) (fun C h₀ a i d hd _ H => ⟨.inl ⟨rfl, rfl⟩, fun _ => ?hturn⟩) (by decide) rfl).cast (congrArg D.list ((congrArg (List.map (quadF bits)) (PySem.W.filter_tt _)).trans hq))) .nil) (bc_join ?hjoin)).cast (congrArg D.str hjq)) .none (.some ((ev_bin (ev_bn H rfl g_len (.cons (hcut (ev_name H (by repeat (first | exact lk_here | refine lk_there (by decide +kernel) ?_))) (.some (ev_name H (by repeat (first | exact lk_here | refine lk_there (by decide +kernel) ?_)))) (.some ((ev_bin (ev_name H (by repeat (first | exact lk_here | refine lk_there (by decide +kernel) ?_))) ev_int bin_add).cast (by simp)))) .nil) (bc_len_list (by simp; omega))) ev_int bin_add).cast (d' := .int ((ch.length + 1 : Nat) : Int)) (by simp))) (sl_str_upto (by show 4 ≤ 100000; decide))) (bin_str ?hz1))
      (ev_bin ev_str ((ev_bin ev_int (ev_bn H rfl g_len (.cons (hcut (ev_name H (by repeat (first | exact lk_here | refine lk_there (by decide +kernel) ?_))) (.some (ev_name H (by repeat (first | exact lk_here | refine lk_there (by decide +kernel) ?_)))) (.some ((ev_bin (ev_name H (by repeat (first | exact lk_here | refine lk_there (by decide +kernel) ?_))) ev_int bin_add).cast (by simp)))) .nil) (bc_len_list (by simp; omega))) bin_sub).cast (d' := .int ((3 - ch.length : Nat) : Int)) (congrArg D.int (by simp; omega))) (bin_str_mul ?hmul)) (bin_str ?hz2)).cast ?hres) (.inl rfl) (fun _ _ _ q => by cases q) ?_
    case hfree =>
      intro n hn
      simp at hn
      rcases hn with rfl | rfl
      · exact ⟨_, rfl⟩
      · exact ⟨_, rfl⟩
    case hturn =>
      obtain ⟨p, hp, rfl⟩ : ∃ p : Nat, p < 4 ∧ D.int (p : Int) = d := by
        have := List.mem_of_getElem? hd
        simp only [List.mem_cons, List.not_mem_nil, or_false] at this
        rcases this with rfl | rfl | rfl | rfl
        · exact ⟨3, by decide, rfl⟩
        · exact ⟨2, by decide, rfl⟩
        · exact ⟨1, by decide, rfl⟩
        · exact ⟨0, by decide, rfl⟩
      refine (ev_item (ev_name H (by repeat (first | exact lk_here | refine lk_there (by decide +kernel) ?_))) ((ev_bin (ev_bin (ev_name H (by repeat (first | exact lk_here | refine lk_there (by decide +kernel) ?_))) (ev_bin ev_int (ev_name H (by repeat (first | exact lk_here | refine lk_there (by decide +kernel) ?_))) (bin_pow ⟨by omega, by omega, by decide⟩)) (bin_div (pow_le p hp))) ev_int (bin_mod (by decide))).cast (d' := .int ((bits / 64 ^ p % 64 : Nat) : Int)) (congrArg D.int ?_)) (it_str rfl (tblS_at _ (Nat.mod_lt _ (by decide))) (by decide))).cast ?_
      · rw [Int.toNat_natCast, Int.fdiv_eq_ediv_of_nonneg _ (Int.le_of_lt (pow_le p hp).1), Int.fmod_eq_emod_of_nonneg _ (by decide)]
        push_cast; rfl
      · show D.str _ = D.str _
        rw [Int.toNat_natCast]
    case hjoin => simp [quad, Str.length]; decide
    case hz1 => omega
    case hmul => exact mul_ok _ (by omega)
    case hz2 => rw [PyProof.Rows.len_cat]; omega
    case hres =>
      rw [hstep]
      refine congrArg D.str (str_eq_of ?_)
      rw [KAf.app_list, KAf.app_list, hpad, ← he, hq4]
      show enc _ ++ (quad bits).take _ ++ _ = enc _ ++ (_ ++ _)
      rw [List.append_assoc]
    exact run_turn ⟨rfl, rfl, rfl, rfl, lk_cons (by repeat (first | exact lk_here | refine lk_there (by decide +kernel) ?_)) (lk_cons (by repeat (first | exact lk_here | refine lk_there (by decide +kernel) ?_)) (lk_cons (by repeat (first | exact lk_here | refine lk_there (by decide +kernel) ?_)) lk_nil))⟩
  · have hN : l.take (3 * (rangeD 0 3 ((l.length + 2) / 3)).length) = l := List.take_of_length_le (by simp [rangeD, rangeInts]; omega)
    simp only [hN]
    exact run_ret (ev_name H (by repeat (first | exact lk_here | refine lk_there (by decide +kernel) ?_)))
end

end Mine
/- part B25 -/
namespace Mine
open PySem PySem.W PySem.Calls PyProof.Rows
variable {b0 : Nat}
theorem call_iter {prog : Program} {w : World} {A : Around} {E : Value → Shared → Prop} {s : Shared} {l : Addr} {items : Array Value} {Q : Value → Shared → Prop} (hl : s.heap.IsList l items)
    (hQ : Q (.ref s.heap.objs.size) { s with heap := s.heap.push { cls := .type "list_iterator", data := .fields #[.ref l, .int 0 0] } }) : wpAny (model prog w) A (call (.builtin "iter") [.ref l]) Q E s := by
  refine call_function_entry (by decide +kernel) (by decide +kernel) kdk_entry_iter (kdk_args_iter _) ?_
  unfold Builtin.«iter»
  refine wpAny_bind (m := someArgs "iter" 1 2 _) (wpAny_of_eq (a := [Value.ref l]) (by first | rfl | kernel_rfl!) ?_)
  show wpAny _ _ (pyIter (.ref l) >>= _) _ _ _
  exact wpAny_bind (wpAny_pyIter_list hl (wpAny_pure ⟨_, rfl, hQ⟩))
section
variable {c : Cx} {S : St} {o : Out} {rest : List Stmt} {ks : List (List Stmt)} {T : List Addr}
theorem cmp_is_missing {ds : List D} : Cmp b0 c T .Is (.list ds) (.val (.ref 124)) false := ⟨fun s u v W hT hu hv => by
  obtain ⟨a, us, rfl, _, ⟨o, ho, hc, _⟩, r⟩ := hu.isList vw_le
  cases hv
  have h124 : s.heap.get? 124 = some ⟨.type "object", _, _, _⟩ := W.obj rfl
  refine wpAny_is_ref_other (fun e => ?_) ho h124 (by rw [hc]; decide) ⟨.refl _, rfl⟩
  subst e
  (first | exact clash h124 ho | exact none1 h124 ho | obtain rfl := one1 h124 ho | (rw [h124] at ho; cases ho)); exact absurd (Value.type.inj hc) (by decide)⟩
theorem ev_callv {k : Nat} {x : Str} {a : Addr} {oc : Value} {od : Option Addr} {osl : Array (Option Value)} {fd : FuncData} {e : Expr} {es : List Expr} {p pos : Pos} {ds : List D} {r : D} (R : Room k c.A) (hx : Ev b0 c S (.Name x p) (.val (.ref a)))
    (hK : (frag c.w.params).lookup a = some ⟨oc, od, .func fd, osl⟩) (hf : Fn b0 c.prog c.w k a ds [] r) (he : EvAll b0 c S (e :: es) ds) (hs : ((e :: es).all fun e => !isStarred e) = true := by rfl) (hst : starEach (e :: es) c.env = (false, eval e c.env) :: starEach es c.env := by rfl) :
    Ev b0 c S (.Call (.Name x p) (e :: es) [] pos) r := ⟨fun s F =>
  Call_ (hx.use F fun v s₀ e₀ F₀ A₀ => by
    cases A₀
    exact callWith_def (o := ⟨oc, od, .func fd, osl⟩) rfl (he.use hs F₀ fun vs s₁ e₁ F₁ A₁ => ⟨F₁.wd.obj hK, wpAny_call (codeAny_mono (hf.go c.A s₁ vs [] S.T R F₁.wd F₁.hid A₁ rfl .nil) fun res s₂ q => by
      obtain ⟨v, rfl, e₂, d⟩ := q
      exact ⟨(e₀.trans e₁).trans e₂, d⟩)⟩) hst)⟩

/-- an iterator made by name and walked later -/
theorem run_iter (H : EnvOk c.env) (N : CellsNodup c.env) (hh : c.A.handled = none) (hown : S.own = none) {x y z : Str} {p₁ p₂ p₃ p₄ p₅ p₆ q₁ q₂ q₃ q₄ : Pos} {e e' t : Expr} {b₁ body : List Stmt} {ds : List D} {d : D} (σ : Nat → List (Str × D))
    (he : Ev b0 c S e (.list ds)) (hki : c.env.kindOf "iter" = some .globalImplicit) (hkx : c.env.kindOf x = some .local) (hky : c.env.kindOf y = some .local) (hkz : c.env.kindOf z = some .local)
    (ht : ∀ I, Tst b0 c (S.set x (.val (.ref I))) t false) (he' : ∀ I, Ev b0 c (S.set x (.val (.ref I))) e' d) (hxy : (x == y) = false)
    (h0 : ∀ I, ∀ u d', (σ 0).lookup u = some d' → ((S.set x (.val (.ref I))).set y d).σ.lookup u = some d')
    (turn : ∀ h₀ i d, ds[i]? = some d → Run b0 c { S with h₀ := h₀, σ := (z, d) :: σ i } body [] (.turn { S with h₀ := h₀, σ := σ (i + 1) }))
    (done : Run b0 c { S with σ := σ ds.length } rest ks o)
    (hst : starEach [e] c.env = [(false, eval e c.env)] := by rfl) (hs₁ : swapsWith (.Call (.Name "iter" p₁) [e] [] p₂) (some (.Name x p₃)) q₁.line c.env = pure false := by rfl) (hs₂ : swapsWith e' (some (.Name y p₄)) q₃.line c.env = pure false := by rfl)
    (hdx : (x == ("__debug__" : Str)) = false := by decide) (hdn : (x == ("__classdict__" : Str)) = false := by decide) (hfs : ∀ y, foldedSetIterable (.Name x p₅) c.env y = pure y := by intro _; rfl) :
    Run b0 c S (.Assign [.Name x p₃] (.Call (.Name "iter" p₁) [e] [] p₂) q₁ :: .If t b₁ [.Assign [.Name y p₄] e' q₃] q₂ :: .For (.Name z p₆) (.Name x p₅) body [] q₄ :: rest) ks o := ⟨fun s F => by
  refine wpAny_execs_cons (wpAny_Assign_Name (Call_Name1 (g_iter.go _ _ _ _ _ _ _ H hki F.wd (Calls.callWith_builtin rfl (Calls.evalArgs_plain (Calls.spliced_cons (he.use F fun v s₁ e₁ F₁ A₁ => Calls.spliced_nil ?_))))) hst) hs₁)
  obtain ⟨l, vs, rfl, eg, hl, r⟩ := A₁.isList vw_le
  refine call_iter hl ?_
  have hlT : l ∉ S.T := fun q => by
    obtain ⟨o, e, _⟩ := hl
    unfold vw at eg; (first | exact none2 (if_pos q) e eg | obtain rfl := one2 (if_pos q) e eg | (rw [if_pos q, e] at eg; cases eg))
  have hl149 : l ≠ 149 := fun q => by
    obtain ⟨o, e, cc, n, d⟩ := hl
    subst q
    obtain ⟨ps, e', _⟩ := F₁.tab
    (first | exact clash e e' | exact none1 e e' | obtain rfl := one1 e e' | (rw [e] at e'; cases e')); cases d
  generalize hI : s₁.heap.objs.size = I
  have hIn : s₁.heap.get? I = none := hI ▸ fresh_none _
  have hI149 : I ≠ 149 := hI ▸ fresh_149 F₁.tab
  have hne : l ≠ I := fun q => by
    obtain ⟨o, e, _⟩ := hl
    (first | exact none2 q hIn e | obtain rfl := one2 q hIn e | (rw [q, hIn] at e; cases e))
  generalize hs₂' : ({ s₁ with heap := s₁.heap.push { cls := .type "list_iterator", data := .fields #[.ref l, .int 0 0] } } : Shared) = s₂
  have e2 : Ext b0 s₁ s₂ := hs₂' ▸ Ext.push _
  have F₂ := F₁.ext e2
  have it2 : s₂.heap.IsListIter I l 0 := hs₂' ▸ hI ▸ ⟨_, Heap.get?_push_size _ rfl, rfl, rfl⟩
  have hl2 : s₂.heap.IsList l vs := hs₂' ▸ hl.push _
  have hIT : I ∉ S.T := fun q => by obtain ⟨o, e⟩ := F₁.hid I q; (first | exact clash hIn e | exact none1 hIn e | obtain rfl := one1 hIn e | (rw [hIn] at e; cases e))
  have hI0 : S.h₀.get? I = none := by
    cases q : S.h₀.get? I with
    | none => rfl
    | some o => obtain ⟨_, e⟩ := (F₁.keep _ _ hI149 q).there; (first | exact clash e hIn | exact none1 e hIn | obtain rfl := one1 e hIn | (rw [e] at hIn; cases hIn))
  have r2 : DAll (vw S.T s₂.heap) vs.toList ds := r.mono (vw_sub F₁.tab e2.grow)
  refine wpAny_mono (FS.store (s := s₂) H F₂ (.data (d := .val (.ref I)) (.val _) (fun y a ds q => by (first | exact clash hown q | exact none1 hown q | obtain rfl := one1 hown q | (rw [hown] at q; cases q)))) (.inl hkx)) (fun _ s₃ q₃ => ?_) fun _ _ z => z.elim
  obtain ⟨same₃, F₃, nf₃, _⟩ := q₃
  have st : ∀ (s' s'' : Shared), NotFrame s'.heap s''.heap → s'.heap.IsListIter I l 0 ∧ s'.heap.IsList l vs → s''.heap.IsListIter I l 0 ∧ s''.heap.IsList l vs := fun s' s'' nf h => by
    obtain ⟨⟨o, e, cc, d⟩, ⟨o', e', cc', n, d'⟩⟩ := h
    exact ⟨⟨o, nf _ _ e (fun es ep q => by (first | exact clash d q | exact none1 d q | obtain rfl := one1 d q | (rw [d] at q; cases q))) (fun v q => by (first | exact clash d q | exact none1 d q | obtain rfl := one1 d q | (rw [d] at q; cases q))), cc, d⟩, ⟨o', nf _ _ e' (fun es ep q => by (first | exact clash d' q | exact none1 d' q | obtain rfl := one1 d' q | (rw [d'] at q; cases q))) (fun v q => by (first | exact clash d' q | exact none1 d' q | obtain rfl := one1 d' q | (rw [d'] at q; cases q))), cc', n, d'⟩⟩
  have sg : ∀ (s' s'' : Shared), Ext b0 s' s'' → s'.heap.IsListIter I l 0 ∧ s'.heap.IsList l vs → s''.heap.IsListIter I l 0 ∧ s''.heap.IsList l vs := fun s' s'' ex h => by
    obtain ⟨⟨o, e, cc, d⟩, ⟨o', e', cc', n, d'⟩⟩ := h
    exact ⟨⟨o, (ex.grow.1 _ _ hI149 e).nd (fun es ep q => by (first | exact clash d q | exact none1 d q | obtain rfl := one1 d q | (rw [d] at q; cases q))), cc, d⟩, ⟨o', (ex.grow.1 _ _ hl149 e').nd (fun es ep q => by (first | exact clash d' q | exact none1 d' q | obtain rfl := one1 d' q | (rw [d'] at q; cases q))), cc', n, d'⟩⟩
  have nfv : ∀ (s' s'' : Shared), NotFrame s'.heap s''.heap → Sub (vw S.T s'.heap) (vw S.T s''.heap) := fun s' s'' nf b ob e hc hd => by
    unfold vw at e ⊢
    split at e
    · cases e
    · rename_i hb
      rw [if_neg hb]
      obtain ⟨vs, n, hd⟩ := hd
      exact nf _ _ e (fun es ep q => by (first | exact clash hd q | exact none1 hd q | obtain rfl := one1 hd q | (rw [hd] at q; cases q))) fun v q => by (first | exact clash hd q | exact none1 hd q | obtain rfl := one1 hd q | (rw [hd] at q; cases q))
  have st3 := st _ _ nf₃ ⟨it2, hl2⟩
  have r3 := r2.mono (nfv _ _ nf₃)
  refine wpAny_execs_cons (wpAny_If ((ht I).use F₃ fun s₄ e₄ F₄ => ?_))
  refine wpAny_execs_cons (wpAny_Assign_Name ((he' I).use F₄ fun v s₅ e₅ F₅ A₅ => wpAny_mono (FS.store H F₅ (.data A₅ (fun y a ds q => by
    have : S.own = some (y, a, ds) := q
    (first | exact clash hown this | exact none1 hown this | obtain rfl := one1 hown this | (rw [hown] at this; cases this)))) (.inl hky)) (fun _ s₆ q₆ => ?_) fun _ _ z => z.elim) hs₂)
  obtain ⟨same₆, F₆, nf₆, _⟩ := q₆
  have st6 := st _ _ nf₆ (sg _ _ (e₄.trans e₅) st3)
  have r6 := (r3.mono (vw_sub F₃.tab (e₄.trans e₅).grow)).mono (nfv _ _ nf₆)
  have same6 : Same s s₆ := (((e₁.trans e2).same.trans same₃).trans (e₄.trans e₅).same).trans same₆
  refine wpAny_execs_nil (wpAny_execs_cons (wpAny_For ?_ hfs))
  obtain ⟨m, h1, h2, _⟩ := F₆.frame
  obtain ⟨u, X, B⟩ := h2 x (.val (.ref I)) (lk_there hxy lk_here)
  cases B
  refine ev_var H h1 X (wpAny_pyIter_listiter st6.1 ?_) hdx hdn
  have F₇ : FS b0 c.w c.env { S with σ := σ 0, own := none } s₆.heap := F₆.le ⟨rfl, rfl, rfl, hown.symm, h0 I⟩
  have WW := Walks.list (prog := c.prog) (w := c.w) hh I l hne vs
  have hsz : vs.size = ds.length := by have := r.length; simpa using this
  rw [hsz] at WW
  refine for_core (S := S) H N σ (fun _ => none) (.inl hkz) (fun _ _ _ _ q => by cases q) (fun h₀ i d hd => by
      have := turn h₀ i d hd
      rw [hown] at this
      exact this) WW st6 hI0 hIT hI149 (fun i h' => ?_) (fun b hb => ?_) (fun i v hv => r6.get (by simpa using hv)) F₇ fun s' hs F' => ?_
  · rintro ⟨⟨o, e, cc, d⟩, _⟩
    exact ⟨o, _, e, d, by intro q t; simp⟩
  · rcases List.mem_cons.mp hb with rfl | hb
    · exact .inl rfl
    · obtain rfl := List.mem_singleton.mp hb
      obtain ⟨o, e, cc, n, d⟩ := st6.2
      exact .inr ⟨hlT, hl149, o, _, _, e, d⟩
  · have F'' : FS b0 c.w c.env { S with σ := σ ds.length } s'.heap := F'.le ⟨rfl, rfl, rfl, hown, fun _ _ q => q⟩
    exact done.use (S₀ := S) ⟨rfl, rfl⟩ (same6.trans hs) F''⟩
end
def piles (os : List Ord) : List Str := os.foldl laid []
def PileOk (ps : List Str) : Prop := (∀ x ∈ ps, x.length ≤ 8000) ∧ ps.length ≤ 1000
section
variable {prog : Program} {w : World}
theorem piles_succ {os : List Ord} {i : Nat} {o : Ord} (h : os[i]? = some o) : piles (os.take (i + 1)) = laid (piles (os.take i)) o := PyProof.Rows.foldl_take_succ laid [] h
theorem fn_reduce {os : List Ord} (hok : ∀ o ∈ os, o.ok) (hp : ∀ i, PileOk (piles (os.take i))) : Fn b0 prog w 3 132 [.val (.ref 166), .list (os.map Ord.d), .list []] [] (dP (piles os)) := by
  refine fn_of (k := 2) ["function", "sequence", "initial"] [] (hK := rfl) (by kernel_rfl) rfl rfl rfl rfl rfl rfl rfl (by kernel_rfl) (by decide +kernel) [("function", .val (.ref 166)), ("sequence", .list (os.map Ord.d)), ("initial", .list [])] rfl
    (bind_dflt (Tu := 125) (xs := []) (n0 := 3) (es := []) rfl rfl rfl (fun g => .nil) rfl rfl (fun vs hv => by match vs, hv with | [v, u, x], _ => exact ⟨_, rfl, rfl⟩)) fun A L h₀ T R H => ?_
  refine run_iter H (fun x c hx => by cases hx) R.handled rfl (fun i => [("function", .val (.ref 166)), ("value", dP (piles (os.take i)))]) (ev_name H (by repeat (first | exact lk_here | refine lk_there (by decide +kernel) ?_))) rfl rfl rfl rfl
    (fun I => tst_cmp (ev_name H (by repeat (first | exact lk_here | refine lk_there (by decide +kernel) ?_))) (ev_gl H rfl g_missing) cmp_is_missing) (d := .list []) (fun I => (ev_name H (by repeat (first | exact lk_here | refine lk_there (by decide +kernel) ?_)))) (by decide +kernel) (fun I => lk_cons (by repeat (first | exact lk_here | refine lk_there (by decide +kernel) ?_)) (lk_cons (by repeat (first | exact lk_here | refine lk_there (by decide +kernel) ?_)) lk_nil)) ?_ ?_
  · intro h₁ i d hd
    obtain ⟨o, ho, rfl⟩ : ∃ o, os[i]? = some o ∧ o.d = d := by simpa using hd
    have hm := List.mem_of_getElem? ho
    have hpi := hp i
    refine run_assign (d := dP (piles (os.take (i + 1)))) H ((ev_callv R (a := 166) (ev_name H (by repeat (first | exact lk_here | refine lk_there (by decide +kernel) ?_))) (hK := rfl) (fn_laid (hok o hm) hpi.1 hpi.2) (.cons (ev_name H (by repeat (first | exact lk_here | refine lk_there (by decide +kernel) ?_))) (.cons (ev_name H (by repeat (first | exact lk_here | refine lk_there (by decide +kernel) ?_))) .nil))).cast (congrArg dP (piles_succ ho).symm)) (.inl rfl) (fun _ _ _ q => by cases q) ?_
    exact run_turn ⟨rfl, rfl, rfl, rfl, lk_cons (by repeat (first | exact lk_here | refine lk_there (by decide +kernel) ?_)) (lk_cons (by repeat (first | exact lk_here | refine lk_there (by decide +kernel) ?_)) lk_nil)⟩
  · have hN : os.take (os.map Ord.d).length = os := List.take_of_length_le (by simp)
    simp only [hN]
    exact run_ret (ev_name H (by repeat (first | exact lk_here | refine lk_there (by decide +kernel) ?_)))
end

end Mine
/- part B26 -/
namespace Mine
open PySem PySem.W PySem.Calls PyProof.Rows
variable {b0 : Nat}
noncomputable def fnOf (w : World) (a : Addr) : Option FuncData := match (frag w.params).lookup a with | some ⟨_, _, .func fd, _⟩ => some fd | _ => none
noncomputable def stmtsOf (w : World) (a : Addr) : List Stmt := match fnOf w a with | some fd => (match fd.body with | .stmts b => b | _ => []) | none => []
noncomputable def rdDef (w : World) : Option (Arguments × List Stmt × Scope) := match stmtsOf w 154 with | _ :: .FunctionDef _ p b _ _ _ sc _ _ _ :: _ => some (p, b, sc) | _ => none
noncomputable def rdParams (w : World) : Arguments := ((rdDef w).map (·.1)).getD ⟨[], [], none, [], [], none, []⟩
noncomputable def rdBody (w : World) : List Stmt := ((rdDef w).map (·.2.1)).getD []
noncomputable def rdScope (w : World) : Scope := ((rdDef w).map (·.2.2)).getD { kind := .function, names := [], isGenerator := false, isCoroutine := false }
/-- the reading function -/
def RdFn (w : World) (h : Heap) (rd c : Addr) : Prop := ∃ doc pm c' ctv, h.get? rd = some (fnMade "read" qualRead (rdParams w) (rdBody w) (rdScope w) [("left", c)] doc pm c' ctv) ∧ h.CodeRec (.ref c') qualRead
/-- a stream's left octets -/
def StreamAt (w : World) (h : Heap) (sm l : Addr) (b : Array UInt8) : Prop :=
  ∃ d rd c oS fdS m tk, h.get? sm = some oS ∧ oS.cls = .type "function" ∧ oS.dict = some d ∧ oS.data = .func fdS ∧ h.Ns d m ∧ m "read" = some (.ref rd) ∧ RdFn w h rd c ∧ h.IsCell c (some (.ref l)) ∧ PlainL h l #[.bytes b tk]

theorem among_other {pos pos' : Pos} {c : Value} (hne : (((pos.line : Int) == (pos'.line : Int)) && ((pos.col : Int) == (pos'.col : Int))) = false) : ∀ (l : List Value), TriplesOk l → codeAmong pos' (l ++ [rawInt pos.line, rawInt pos.col, c]) = codeAmong pos' l
  | [], _ => by
    show (if (((pos.line : Int) == (pos'.line : Int)) && ((pos.col : Int) == (pos'.col : Int))) = true then some c else codeAmong pos' []) = none
    rw [hne]; rfl
  | .int a _ :: .int b _ :: x :: r, h => by
    simp only [List.cons_append, codeAmong]
    rw [among_other hne r h]
/-- the top's parts that a def needs -/
theorem Wd.def {w : World} {h : Heap} (W : Wd b0 w h) : ∃ mg, h.Ns mainGlobals mg ∧ CodeHd h 153 149 ∧ h.BuiltinsAt mg 149 := by
  obtain ⟨g, p, loose, mean, mg, mb, st, B⟩ := W.ex
  obtain ⟨ps, t1, _⟩ := W.tab
  have hgs := B.T.g.keeps st
  obtain ⟨bm, ob, b1, b2, b3, b4, b5, b6⟩ := B.T.bmain
  have hbP : bm ≠ 149 := fun q => by (first | exact none2 q B.no b3 | obtain rfl := one2 q B.no b3 | (rw [q, B.no] at b3; cases b3))
  have hbG : bm ≠ mainGlobals := fun q => by
    obtain ⟨o, es, ep, e, hd, _⟩ := B.T.g
    (first | exact none2 q e b3 | obtain rfl := one2 q e b3 | (rw [q, e] at b3; cases b3)); (first | exact clash hd b6 | exact none1 hd b6 | obtain rfl := one1 hd b6 | (rw [hd] at b6; cases b6))
  exact ⟨mg, hgs, B.C.keeps st, bm, ob, b1, b2, hbG, hbP, st _ _ b3, b4, b5, b6⟩

/-- a function object changed that is none of the entry's -/
theorem FS.changedF {w : World} {env : Env} {S : St} {h h' : Heap} {a : Addr} {o : Obj} {fd : FuncData} (F : FS b0 w env S h) (ha : h.get? a = some o) (h0 : S.h₀.get? a = none) (hd : o.data = .func fd) (k : ∀ b o, b ≠ a → h.get? b = some o → h'.get? b = some o) (hex : ∃ o, h'.get? a = some o) : FS b0 w env S h' := by
  have cl : ∀ c v, h.IsCell c v → h'.IsCell c v := fun c v ⟨o', e, d⟩ => ⟨o', k c o' (fun q => by (first | exact none2 q ha e | obtain rfl := one2 q ha e | (rw [q, ha] at e; cases e)); (first | exact clash hd d | exact none1 hd d | obtain rfl := one1 hd d | (rw [hd] at d; cases d))) e, d⟩
  have vs' : Sub (vw S.T h) (vw S.T h') := vw_but k ha (.inr fun vs n q => by (first | exact clash hd q | exact none1 hd q | obtain rfl := one1 hd q | (rw [hd] at q; cases q)))
  have vr : ∀ m y u, Var env h m y u → Var env h' m y u := fun m y u V => by
    cases V with
    | loc a b => exact .loc a b
    | cell c a b e => exact .cell c a b (cl _ _ e)
    | free c a b e => exact .free c a b (cl _ _ e)
  obtain ⟨m, h1, h2, h3⟩ := F.frame
  refine ⟨F.wd₀, F.tab.keepsBut ha (fun vs q => by (first | exact clash hd q | exact none1 hd q | obtain rfl := one1 hd q | (rw [hd] at q; cases q))) k, fun b o n e => (F.keep b o n e).exact fun o' e' => k b o' (fun q => by (first | exact none2 q h0 e | obtain rfl := one2 q h0 e | (rw [q, h0] at e; cases e))) e', fun b hb => ?_, F.sub, F.loc, fun x c a => let ⟨⟨v, e⟩, z⟩ := F.cells x c a; ⟨⟨v, cl _ _ e⟩, z⟩, m, ?_, fun y d e => let ⟨v, V, B⟩ := h2 y d e; ⟨v, vr _ _ _ V, B.mono vs'⟩, fun y b ds e => ?_⟩
  · obtain ⟨ob, e⟩ := F.hid b hb
    by_cases q : b = a
    · subst q; exact hex
    · exact ⟨ob, k b ob q e⟩
  · obtain ⟨ol, es, ep, e, d, r⟩ := h1
    exact ⟨ol, es, ep, k _ _ (fun q => by (first | exact none2 q ha e | obtain rfl := one2 q ha e | (rw [q, ha] at e; cases e)); (first | exact clash hd d | exact none1 hd d | obtain rfl := one1 hd d | (rw [hd] at d; cases d))) e, d, r⟩
  · obtain ⟨V, a1, a2, vs, ⟨o', n, e', cc, d0, d⟩, a4⟩ := h3 y b ds e
    exact ⟨vr _ _ _ V, a1, a2, vs, ⟨o', n, k _ _ (fun q => by (first | exact none2 q ha e' | obtain rfl := one2 q ha e' | (rw [q, ha] at e'; cases e')); (first | exact clash hd d | exact none1 hd d | obtain rfl := one1 hd d | (rw [hd] at d; cases d))) e', cc, d0, d⟩, a4.mono vs'⟩

/-- the code table grown by a code -/
theorem TabOk.more {h h' : Heap} {ps : Array Value} {pos : Pos} {c' : Addr} {qual : Str} (t : TabOk h) (hp : h.get? 149 = some (tabObj ps)) (hq : (pos = posRead ∧ qual = qualRead) ∨ (pos = posLam ∧ qual = qualLam)) (hn : codeAmong pos ps.toList = none)
    (k : ∀ b o, b ≠ 149 → h.get? b = some o → h'.get? b = some o) (hp' : h'.get? 149 = some (tabObj (ps ++ #[rawInt pos.line, rawInt pos.col, .ref c']))) (hc : h'.CodeRec (.ref c') qual) : TabOk h' := by
  obtain ⟨ps', h1, h2, h3, h4⟩ := t
  (first | exact clash hp h1 | exact none1 hp h1 | obtain rfl := one1 hp h1 | (rw [hp] at h1; cases h1))
  have kc : ∀ {v q}, h.CodeRec v q → h'.CodeRec v q := fun {v q} ⟨c, o, vs, t, e1, e2, e3, e4⟩ => by
    refine ⟨c, o, vs, t, e1, k _ _ (fun z => ?_) e2, e3, e4⟩
    subst z
    (first | exact clash hp e2 | exact none1 hp e2 | obtain rfl := one1 hp e2 | (rw [hp] at e2; cases e2)); cases e3
    have : ∀ (l : List Value), TriplesOk l → ∀ q t, l[1]? ≠ some (.str q t) := fun l hl q t z => by
      match l, hl with
      | .int _ _ :: .int _ _ :: _ :: _, _ => simp at z
    exact this _ h2 _ _ (by rw [Array.getElem?_toList]; exact e4)
  refine ⟨_, hp', by rw [Array.toList_append]; exact TriplesOk_snoc _ _ _ _ h2, ?_, ?_⟩
  · rcases hq with ⟨rfl, rfl⟩ | ⟨rfl, rfl⟩
    · right
      exact ⟨c', by rw [Array.toList_append]; exact codeAmong_snoc _ h2 hn, hc⟩
    · unfold TabFor
      rw [Array.toList_append]
      rw [show (#[rawInt (posLam.line : Int), rawInt (posLam.col : Int), Value.ref c'] : Array Value).toList = [rawInt posLam.line, rawInt posLam.col, .ref c'] from rfl, among_other (by decide) _ h2]
      exact h3.imp id fun ⟨c, a, b⟩ => ⟨c, a, kc b⟩
  · rcases hq with ⟨rfl, rfl⟩ | ⟨rfl, rfl⟩
    · unfold TabFor
      rw [Array.toList_append]
      rw [show (#[rawInt (posRead.line : Int), rawInt (posRead.col : Int), Value.ref c'] : Array Value).toList = [rawInt posRead.line, rawInt posRead.col, .ref c'] from rfl, among_other (by decide) _ h2]
      exact h4.imp id fun ⟨c, a, b⟩ => ⟨c, a, kc b⟩
    · right
      exact ⟨c', by rw [Array.toList_append]; exact codeAmong_snoc _ h2 hn, hc⟩
theorem Heap.size_none {h : Heap} {n : Nat} (hn : h.objs.size ≤ n) : h.get? n = none := Heap.get?_none_of_le hn
section
variable {M : Model} {A : Around} {s : Shared} {w : World} {env : Env} {S : St}
theorem make_read (F : FS b0 w env S s.heap) (hcode : env.code = .ref 153) (hgl : env.globals = mainGlobals) {params : Arguments} {body : List Stmt} {scope : Scope} {clos : List (Str × Addr)} {fl : Nat} (hcl : closureFor scope env = pure clos) :
    wpAny M A (makeFunction "read" qualRead params (.stmts body) scope env [] [] [] posRead fl) (fun v s' => ∃ f doc pm c' ctv, v = .ref f ∧ Ext b0 s s' ∧ s.heap.get? f = none ∧ s'.heap.get? f = some (fnMade "read" qualRead params body scope clos doc pm c' ctv) ∧ s'.heap.CodeRec (.ref c') qualRead) NoE s := by
  obtain ⟨mg, hg, C, hb⟩ := F.wd.def
  obtain ⟨ps, hP, ht, h3, h4⟩ := id F.tab
  rcases h3 with hn | ⟨c', hf, hc⟩
  · refine makeFunction_K hcl hgl hg hcode C hP ht hn (by decide) hb fun c' ctv doc h' tk hx hge hlt hrec htb => ⟨_, doc, _, c', ctv, rfl, ?_, Heap.size_none (Nat.le_of_lt (Nat.lt_of_le_of_lt hge hlt)), Heap.get?_push_size _ rfl, hrec.keeps fun b o e => Heap.get?_push_of_some _ e⟩
    exact ⟨_, tk, rfl, fun b o n e => .inl (Heap.get?_push_of_some _ (hx b o n e)), fun t => (t.more hP (.inl ⟨rfl, rfl⟩) hn hx htb hrec).keeps fun b o e => Heap.get?_push_of_some _ e⟩
  · refine makeFunction_hit hcl hgl hg hcode C hP ht hf hb fun ctv doc h' tk hk hsz => ⟨_, doc, _, c', ctv, rfl, ?_, Heap.size_none hsz, Heap.get?_push_size _ rfl, hc.keeps fun b o e => Heap.get?_push_of_some _ (hk b o e)⟩
    exact .of fun b o e => Heap.get?_push_of_some _ (hk b o e)
theorem make_lam (F : FS b0 w env S s.heap) (hcode : env.code = .ref 153) (hgl : env.globals = mainGlobals) {params : Arguments} {body : Expr} {scope : Scope} {clos : List (Str × Addr)} {fl : Nat} (hcl : closureFor scope env = pure clos) :
    wpAny M A (makeFunction "<lambda>" qualLam params (.expr body) scope env [] [] [] posLam fl) (fun v s' => ∃ f fd, v = .ref f ∧ Ext b0 s s' ∧ s.heap.get? f = none ∧ s'.heap.get? f = some { cls := .type "function", data := .func fd }) NoE s := by
  obtain ⟨mg, hg, C, hb⟩ := F.wd.def
  obtain ⟨ps, hP, ht, h3, h4⟩ := id F.tab
  rcases h4 with hn | ⟨c', hf, hc⟩
  · refine kla_makeFunction hcl hgl hg hcode C hP ht hn (by decide) hb fun c' ctv h' tk hx hge hlt hrec htb => ⟨_, _, rfl, ?_, Heap.size_none (Nat.le_of_lt (Nat.lt_of_le_of_lt hge hlt)), Heap.get?_push_size _ rfl⟩
    exact ⟨_, tk, rfl, fun b o n e => .inl (Heap.get?_push_of_some _ (hx b o n e)), fun t => (t.more hP (.inr ⟨rfl, rfl⟩) hn hx htb hrec).keeps fun b o e => Heap.get?_push_of_some _ e⟩
  · refine kla_makeFunctionHit hcl hgl hg hcode C hP ht hf hb fun ctv h' tk hk hsz => ⟨_, _, rfl, ?_, Heap.size_none hsz, Heap.get?_push_size _ rfl⟩
    exact .of fun b o e => Heap.get?_push_of_some _ (hk b o e)
end

end Mine
/- part B27 -/
namespace Mine
open PySem PySem.W PySem.Calls PyProof.Rows
variable {b0 : Nat}
/-- a call whose end is told by a fact -/
theorem fn_post {prog : Program} {w : World} {k : Nat} {a : Addr} {ds : List D} {kw : List (Str × D)} {P : Heap → Value → Heap → Prop} {oc : Value} {od : Option Addr} {osl : Array (Option Value)} {fd : FuncData} {body : List Stmt} (ps : List Str)
    (hK : (frag w.params).lookup a = some ⟨oc, od, .func fd, osl⟩) (hcd : codeIn (frag w.params) fd.code fd.qualname = true) (hbody : fd.body = .stmts body)
    (hclo : fd.closure = []) (hg : fd.globals = mainGlobals) (hb : fd.builtins = builtinsNs) (hk : fd.scope.kind = .function) (hco : fd.scope.isCoroutine = false) (hgen : fd.scope.isGenerator = false)
    (hps : (ps.all fun x => fd.scope.names.lookup x == some .local) = true) (hnd : ps.Nodup)
    (σ : List (Str × D)) (hσ : σ.map (·.1) = ps)
    (hbind : ∀ A s vs ks T, Wd b0 w s.heap → DAll (vw T s.heap) vs ds → ks.map (·.1) = kw.map (·.1) → DAll (vw T s.heap) (ks.map (·.2)) (kw.map (·.2)) →
      ∃ us, us.length = ps.length ∧ DAll (vw T s.heap) us (σ.map (·.2)) ∧ wpAny (model prog w) A (bindArgs fd ⟨vs, ks⟩) (fun b s₁ => b = ps.zip us ∧ s₁ = s) NoE s)
    (h : ∀ A L h₀ T, Room k A → EnvOk (callEnvC fd L a) → Run b0 ⟨prog, w, A, callEnvC fd L a⟩ { h₀ := h₀, T₀ := T, T := T, σ := σ, own := none } body [] (.post (P h₀))) :
    ∀ A s vs ks T, Room (k + 1) A → Wd b0 w s.heap → (∀ x ∈ T, ∃ o, s.heap.get? x = some o) → DAll (vw T s.heap) vs ds → ks.map (·.1) = kw.map (·.1) → DAll (vw T s.heap) (ks.map (·.2)) (kw.map (·.2)) →
      codeAny (model prog w) A (.call (.ref a) ⟨vs, ks⟩) (fun res s' => ∃ v, res = .ok (.ret v) ∧ Ext b0 s s' ∧ P s.heap v s'.heap) s := fun A s vs ks T R W hT hv hn hkv => by
  obtain ⟨us, hl, hu, hbnd⟩ := hbind A.in1 s vs ks T W hv hn hkv
  have zip1 : (ps.zip us).map (·.1) = ps := List.map_fst_zip (Nat.le_of_eq hl.symm)
  have zip2 : (ps.zip us).map (·.2) = us := List.map_snd_zip (Nat.le_of_eq hl)
  have hloc : ∀ p ∈ ps.zip us, fd.scope.names.lookup p.1 = some .local := fun p hp => by
    have := List.all_eq_true.mp hps p.1 (List.of_mem_zip hp).1
    simpa using this
  refine code_call R.room (W.obj hK) rfl W.lim (W.code hcd) hbody hbnd hclo hloc (fun s₁ X => ?_) hco hgen hk
  obtain ⟨H, hs, F⟩ := call_start (σ := σ) W hT hk hg hb hloc (by rw [zip1]; exact hnd) (by rw [zip1]; exact hσ.symm) (by rw [zip2]; exact hu) X
  have run := h (A.deeper (callEnvC fd s.heap.objs.size a)) s.heap.objs.size s.heap T R.deeper H
  refine wpAny_mono (run.go s₁ F) (fun f s₂ q => ?_) fun _ _ x => x
  have key : ∀ f', f = f' → Same s₁ s₂ → (∃ v, f' = .ret v ∧ Grow b0 s.heap s₂.heap ∧ P s.heap v s₂.heap) → ∃ v, (Except.ok (Flow.ret (match f with | .ret v => v | _ => .none)) : Result) = .ok (.ret v) ∧ Ext b0 s s₂ ∧ P s.heap v s₂.heap := by
    rintro f' rfl h1 ⟨v, rfl, g, d⟩
    exact ⟨v, rfl, (hs.trans h1).ext g, d⟩
  cases f with
  | next => exact key .next rfl q.1 q.2
  | brk => exact key .brk rfl q.1 q.2
  | cont => exact key .cont rfl q.1 q.2
  | ret v => exact key (.ret v) rfl q.1 q.2

theorem nf_of {h h' : Heap} (n : NotFrame h h') {a : Addr} {o : Obj} {fd : FuncData} (e : h.get? a = some o) (d : o.data = .func fd) : h'.get? a = some o := n _ _ e (fun es ep q => by (first | exact clash d q | exact none1 d q | obtain rfl := one1 d q | (rw [d] at q; cases q))) fun v q => by (first | exact clash d q | exact none1 d q | obtain rfl := one1 d q | (rw [d] at q; cases q))
theorem nf_rec {h h' : Heap} (n : NotFrame h h') {v : Value} {q : Str} (e : h.CodeRec v q) : h'.CodeRec v q := by
  obtain ⟨c, o, vs, t, e1, e2, e3, e4⟩ := e
  exact ⟨c, o, vs, t, e1, n _ _ e2 (fun es ep q => by (first | exact clash e3 q | exact none1 e3 q | obtain rfl := one1 e3 q | (rw [e3] at q; cases q))) (fun v q => by (first | exact clash e3 q | exact none1 e3 q | obtain rfl := one1 e3 q | (rw [e3] at q; cases q))), e3, e4⟩
theorem gr_of {h h' : Heap} (n : Grow b0 h h') {a : Addr} {o : Obj} {fd : FuncData} (t : TabOk h) (e : h.get? a = some o) (d : o.data = .func fd) : h'.get? a = some o := (n.1 _ _ (fun q => by
  obtain ⟨ps, e', _⟩ := t
  (first | exact none2 q e' e | obtain rfl := one2 q e' e | (rw [q, e'] at e; cases e)); cases d) e).nd fun es ep q => by (first | exact clash d q | exact none1 d q | obtain rfl := one1 d q | (rw [d] at q; cases q))
theorem gr_rec {h h' : Heap} (n : Grow b0 h h') {v : Value} {q : Str} (t : TabOk h) (e : h.CodeRec v q) : h'.CodeRec v q := by
  obtain ⟨c, o, vs, tk, e1, e2, e3, e4⟩ := e
  refine ⟨c, o, vs, tk, e1, (n.1 _ _ (fun z => ?_) e2).nd (fun es ep q => by (first | exact clash e3 q | exact none1 e3 q | obtain rfl := one1 e3 q | (rw [e3] at q; cases q))), e3, e4⟩
  obtain ⟨ps, e', ht, _⟩ := t
  subst z
  (first | exact clash e' e2 | exact none1 e' e2 | obtain rfl := one1 e' e2 | (rw [e'] at e2; cases e2)); cases e3
  have : ∀ (l : List Value), TriplesOk l → ∀ q t, l[1]? ≠ some (.str q t) := fun l hl q t z => by
    match l, hl with
    | .int _ _ :: .int _ _ :: _ :: _, _ => simp at z
  exact this _ ht _ _ (by rw [Array.getElem?_toList]; exact e4)

/-- the stream is made -/
theorem stream_made {prog : Program} {w : World} {b : Array UInt8} : ∀ A s vs ks T, Room 1 A → Wd b0 w s.heap → (∀ x ∈ T, ∃ o, s.heap.get? x = some o) → DAll (vw T s.heap) vs [.bytes b] → ks.map (·.1) = ([] : List (Str × D)).map (·.1) → DAll (vw T s.heap) (ks.map (·.2)) (([] : List (Str × D)).map (·.2)) →
      codeAny (model prog w) A (.call (.ref 154) ⟨vs, ks⟩) (fun res s' => ∃ v, res = .ok (.ret v) ∧ Ext b0 s s' ∧ ∃ sm l, v = .ref sm ∧ s.heap.get? l = none ∧ StreamAt w s'.heap sm l b ∧ ∀ Lx oL es ep, s.heap.get? Lx = some oL → oL.data = .dict es ep → StreamAt w (hideAll s'.heap [Lx]) sm l b) s := by
  refine fn_post (k := 0) (P := fun h₀ v h => ∃ sm l, v = .ref sm ∧ h₀.get? l = none ∧ StreamAt w h sm l b ∧ ∀ Lx oL es ep, h₀.get? Lx = some oL → oL.data = .dict es ep → StreamAt w (hideAll h [Lx]) sm l b) ["octets"] (hK := rfl) (by kernel_rfl) rfl rfl rfl rfl rfl rfl rfl (by kernel_rfl) (by decide) [("octets", .bytes b)] rfl (bind_plain (plain1 fun v => rfl) rfl) fun A L h₀ T R H => ?_
  refine run_own H rfl (.cons (ev_name H (by repeat (first | exact lk_here | refine lk_there (by decide +kernel) ?_))) .nil) (.inr ⟨rfl, _, rfl, Nat.lt_succ_self _⟩) fun l hlT => ?_
  refine ⟨fun s F => ?_⟩
  refine wpAny_execs_cons (nestDef_K rfl rfl rfl (wpAny_mono (make_read F rfl rfl (closure_of ?_)) (fun v s₁ q₁ => ?_) fun _ _ x => x.elim))
  · intro n hn
    simp at hn
    subst hn
    exact ⟨_, rfl⟩
  obtain ⟨rd, doc, pm, c', ctv, rfl, e₁, hrdn, hrd, hrec⟩ := q₁
  have F₁ := F.ext e₁
  refine wpAny_mono (FS.store (x := "read") H F₁ (.data (d := .val (.ref rd)) (.val _) (fun y a ds q => by cases q; decide +kernel)) (.inl rfl)) (fun _ s₂ q₂ => ?_) fun _ _ x => x.elim
  obtain ⟨same₂, F₂, nf₂, _⟩ := q₂
  have hrd2 := nf_of nf₂ hrd rfl
  have hrec2 := nf_rec nf₂ hrec
  refine wpAny_execs_cons (wpAny_Assign_Name (kla_eval rfl (wpAny_mono (make_lam F₂ rfl rfl (clos := []) rfl) (fun v s₃ q₃ => ?_) fun _ _ x => x.elim)) rfl)
  obtain ⟨sm, fdS, rfl, e₃, hsmn, hsm⟩ := q₃
  have F₃ := F₂.ext e₃
  have hrd3 := gr_of e₃.grow F₂.tab hrd2 rfl
  have hrec3 := gr_rec e₃.grow F₂.tab hrec2
  refine wpAny_mono (FS.store (x := "stream") H F₃ (.data (d := .val (.ref sm)) (.val _) (fun y a ds q => by cases q; decide +kernel)) (.inl rfl)) (fun _ s₄ q₄ => ?_) fun _ _ x => x.elim
  obtain ⟨same₄, F₄, nf₄, _⟩ := q₄
  have hsm4 := nf_of nf₄ hsm rfl
  have hrd4 := nf_of nf₄ hrd3 rfl
  have hrec4 := nf_rec nf₄ hrec3
  have e4sm : sm ≠ 149 := fun z => by
    obtain ⟨ps, e', _⟩ := F₂.tab
    (first | exact none2 z e' hsmn | obtain rfl := one2 z e' hsmn | (rw [z, e'] at hsmn; cases hsmn))
  have hsm0 : h₀.get? sm = none := by
    cases z : h₀.get? sm with
    | none => rfl
    | some o =>
      obtain ⟨_, e⟩ := (F₂.keep sm o e4sm z).there
      (first | exact clash hsmn e | exact none1 hsmn e | obtain rfl := one1 hsmn e | (rw [hsmn] at e; cases e))
  have hne : rd ≠ sm := fun z => by
    subst z
    (first | exact clash hrd2 hsmn | exact none1 hrd2 hsmn | obtain rfl := one1 hrd2 hsmn | (rw [hrd2] at hsmn; cases hsmn))
  refine wpAny_execs_cons (plainObj_wpAny_Assign_Attribute (Ev.use (c := ⟨prog, w, A, callEnvC _ L 154⟩) (d := .val (.ref rd)) (ev_name H (by repeat (first | exact lk_here | refine lk_there (by decide +kernel) ?_))) F₄ fun v s₅ e₅ F₅ A₅ => Ev.use (c := ⟨prog, w, A, callEnvC _ L 154⟩) (d := .val (.ref sm)) (ev_name H (by repeat (first | exact lk_here | refine lk_there (by decide +kernel) ?_))) F₅ fun u s₆ e₆ F₆ A₆ => ?_) rfl)
  cases A₅
  cases A₆
  have hsm6 := gr_of (e₅.trans e₆).grow F₄.tab hsm4 rfl
  have hrd6 := gr_of (e₅.trans e₆).grow F₄.tab hrd4 rfl
  have hrec6 := gr_rec (e₅.trans e₆).grow F₄.tab hrec4
  refine fu_setattr hsm6 rfl rfl rfl fun d h' tk hd e1 e2 k => ?_
  have F₇ := F₆.changedF hsm6 hsm0 rfl k ⟨_, e1⟩
  refine wpAny_execs_cons (wpAny_Return_some (Ev.use (c := ⟨prog, w, A, callEnvC _ L 154⟩) (s := { s₆ with heap := h', toks := tk }) (d := .val (.ref sm)) (ev_name H (by repeat (first | exact lk_here | refine lk_there (by decide +kernel) ?_))) F₇ fun v s₈ e₈ F₈ A₈ => ?_))
  cases A₈
  have hsm8 := gr_of e₈.grow F₇.tab e1 rfl
  have hrd8 := gr_of e₈.grow F₇.tab (k _ _ hne hrd6) rfl
  have hrec8 : s₈.heap.CodeRec (.ref c') qualRead := gr_rec e₈.grow F₇.tab (by
    obtain ⟨c, o, vs, t, e1, e2, e3, e4⟩ := hrec6
    exact ⟨c, o, vs, t, e1, k _ _ (fun z => by (first | exact none2 z hsm6 e2 | obtain rfl := one2 z hsm6 e2 | (rw [z, hsm6] at e2; cases e2)); cases e3) e2, e3, e4⟩)
  obtain ⟨m, h1, h2, h3⟩ := F₈.frame
  obtain ⟨V, a1, a2, us, a3, a4⟩ := h3 "left" l [.bytes b] rfl
  refine ⟨((((e₁.same.trans same₂).trans e₃.same).trans same₄).trans (e₅.trans e₆).same).trans (Same.trans ⟨h', tk, rfl⟩ e₈.same), _, rfl, F₈.grown, sm, l, rfl, a2, ?_⟩
  obtain ⟨tk', rfl⟩ : ∃ tk', us = #[.bytes b tk'] := by
    obtain ⟨l'⟩ := us
    cases a4 with
    | cons q1 q2 => cases q1; cases q2; exact ⟨_, rfl⟩
  have hcell : s₈.heap.IsCell (L + 1) (some (.ref l)) := by
    cases V with
    | loc z => cases z
    | cell c z1 z2 z3 => cases z2; exact z3
    | free c z => cases z
  have hNs := Ns_grow F₇.tab e₈.grow e2
  refine ⟨⟨d, rd, L + 1, _, _, _, tk', hsm8, rfl, rfl, rfl, hNs, if_pos rfl, ⟨doc, pm, c', ctv, hrd8, hrec8⟩, hcell, a3⟩, fun Lx oL es ep eL dL => ?_⟩
  have n149 : ∀ x : Addr, h₀.get? x = some oL → x ≠ 149 := fun x e q => by
    obtain ⟨ps, e', _⟩ := F₈.wd₀.tab
    (first | exact none2 q e' e | obtain rfl := one2 q e' e | (rw [q, e'] at e; cases e)); cases dL
  have eL8 : ∃ o es ep, s₈.heap.get? Lx = some o ∧ o.data = .dict es ep := by
    rcases F₈.keep Lx oL (n149 _ eL) eL with e | ⟨_, _, _, _, _, e⟩
    · exact ⟨_, _, _, e, dL⟩
    · exact ⟨_, _, _, e, dL⟩
  have hd : d ≠ Lx := fun q => by
    obtain ⟨_, e⟩ := (F₆.keep Lx oL (n149 _ eL) eL).there
    rw [← q, hd] at e; cases e
  obtain ⟨o8, es8, ep8, e8, d8⟩ := eL8
  have hh : ∀ x o, s₈.heap.get? x = some o → (∀ es ep, o.data ≠ .dict es ep) → (hideAll s₈.heap [Lx]).get? x = some o := fun x o e n => hideAll_get _ e fun hm => by
    (first | exact none2 (List.mem_singleton.mp hm) e8 e | obtain rfl := one2 (List.mem_singleton.mp hm) e8 e | (rw [List.mem_singleton.mp hm, e8] at e; cases e)); exact n _ _ d8
  refine ⟨d, rd, L + 1, _, _, (fun y : Str => if y = "read" then some (Value.ref rd) else none), tk', hh _ _ hsm8 (fun _ _ q => by cases q), rfl, rfl, rfl, ?_, if_pos rfl, ⟨doc, pm, c', ctv, hh _ _ hrd8 (fun _ _ q => by cases q), ?_⟩, ?_, ?_⟩
  · obtain ⟨o, es, ep, e, r⟩ := hNs
    exact ⟨o, es, ep, hideAll_get _ e fun hm => hd (List.mem_singleton.mp hm), r⟩
  · obtain ⟨c, o, vs, t, e1, e2, e3, e4⟩ := hrec8
    exact ⟨c, o, vs, t, e1, hh _ _ e2 (fun _ _ q => by (first | exact clash e3 q | exact none1 e3 q | obtain rfl := one1 e3 q | (rw [e3] at q; cases q))), e3, e4⟩
  · obtain ⟨o, e, dc⟩ := hcell
    exact ⟨o, hh _ _ e (fun _ _ q => by (first | exact clash dc q | exact none1 dc q | obtain rfl := one1 dc q | (rw [dc] at q; cases q))), dc⟩
  · obtain ⟨o, n, e, c, d0, dl⟩ := a3
    exact ⟨o, n, hh _ _ e (fun _ _ q => by (first | exact clash dl q | exact none1 dl q | obtain rfl := one1 dl q | (rw [dl] at q; cases q))), c, d0, dl⟩

end Mine
/- part B28 -/
namespace Mine
open PySem PySem.W PySem.Calls PyProof.Rows
variable {b0 : Nat}
theorem DAll.set {g : Vw} {v : Value} {d : D} : ∀ {vs : List Value} {ds : List D} {j : Nat}, DAll g vs ds → DAt g v d → DAll g (vs.set j v) (ds.set j d)
  | _, _, _, .nil, _ => .nil
  | _, _, 0, .cons _ r, h => .cons h r
  | _, _, j + 1, .cons q r, h => .cons q (DAll.set r h)
theorem mapSeq_dict (f : Array Value → Array Value) (o : Obj) : (Obj.mapSeq f o).dict = o.dict := by
  unfold Obj.mapSeq
  split <;> rfl
section
variable {prog : Program} {w : World} {A : Around} {E : Value → Shared → Prop} {s : Shared}
theorem setItem_plain {l : Addr} {items : Array Value} {k : Int} {t : Tok} {v : Value} {Q : Unit → Shared → Prop} (hp : PlainL s.heap l items)
    (h0 : 0 ≤ k) (hfit : k < 2 ^ 63) (hn : k < items.size)
    (hQ : ∀ h', PlainL h' l (items.setIfInBounds k.toNat v) → Heap.SameBut l s.heap h' → Q () { s with heap := h' }) :
    wpAny (model prog w) A (setItem (.ref l) (.int k t) v) Q E s := by
  have hl := hp.isList
  obtain ⟨o, ne, ho, hc, hdn, hd⟩ := id hp
  unfold setItem
  try with_reducible refine wpAny_holding ?_
  first | refine wpAny_bind (wpAny_pure ?_) | skip
  refine wpAny_bind (wpAny_sequenceKey hl.typeIs (by decide) ?_)
  refine wpAny_bind (wpAny_callSpecial?_slot (name := Str.ofString "__setitem__") hl.typeIs slot_list_setitem
    (wpAny_call_entry slot_list_setitem hl.typeIs entry_list_setitem ?_ (args_list_setitem _ _ _)))
  show wpAny _ _ (Builtin.List.listSubscript? (.int k t) >>= _) _ _ s
  refine wpAny_bind (wpAny_listSubscript_int (fitsIndex_of h0 hfit) ?_)
  clear hfit
  obtain ⟨j, rfl⟩ := Int.eq_ofNat_of_zero_le h0
  have hj : j < items.size := by omega
  have hx' : items[j]? = some items[j] := Array.getElem?_eq_getElem hj
  show wpAny _ _ ((seqItemAt l j >>= fun r => pure (r.map (j, ·))) >>= _) _ _ s
  refine wpAny_bind (wpAny_bind (wpAny_seqItemAt ho hd (wpAny_pure ?_)))
  rw [hx']
  show wpAny _ _ (setSeqItemAt l j v >>= _) _ _ s
  obtain ⟨n', hd'⟩ := Obj.data_mapSeq hd (·.setIfInBounds j v)
  have hfin : PlainL (s.heap.update l (Obj.mapSeq (·.setIfInBounds j v))) l (items.setIfInBounds j v) :=
    ⟨_, n', Heap.get?_update_self _ ho (Obj.isFreed_of_seq hd'), (Obj.cls_mapSeq ..).trans hc, (mapSeq_dict _ _).trans hdn, hd'⟩
  refine wpAny_bind (wpAny_setSeqItemAt ho hd ?_)
  first
    | exact wpAny_bind (wpAny_pure (wpAny_pure ⟨.none, rfl, wpAny_pure (hQ _ hfin (Heap.SameBut.update ..))⟩))
    | exact wpAny_pure ⟨.none, rfl, wpAny_pure (hQ _ hfin (Heap.SameBut.update ..))⟩
end
/-- the own list changed -/
theorem FS.ownSet {w : World} {env : Env} {S : St} {h h' : Heap} {x : Str} {a : Addr} {ds ds' : List D} {vs' : Array Value} (F : FS b0 w env S h) (hw : S.own = some (x, a, ds)) (hp : PlainL h' a vs') (hs : Heap.SameBut a h h') (hd : DAll (vw S.T h) vs'.toList ds') : FS b0 w env { S with own := some (x, a, ds') } h' := by
  obtain ⟨m, k1, k2, k3⟩ := F.frame
  obtain ⟨V', a1, a2, vs, b3, b4⟩ := k3 x a ds hw
  obtain ⟨oa, n, ea, ca, da0, da⟩ := id b3
  have nf : ∀ vs, oa.data ≠ .fields vs := fun vs q => by (first | exact clash da q | exact none1 da q | obtain rfl := one1 da q | (rw [da] at q; cases q))
  obtain ⟨t, k⟩ := F.wd_but a2 ea nf hs.extBut
  have vs1 : Sub (vw S.T h) (vw S.T h') := vw_but hs.extBut ea (.inl a1)
  have cl : ∀ c v, h.IsCell c v → h'.IsCell c v := fun c v hc => hc.sameBut hs (fun q => by
    obtain ⟨o, e, d⟩ := hc
    (first | exact none2 q ea e | obtain rfl := one2 q ea e | (rw [q, ea] at e; cases e)); (first | exact clash da d | exact none1 da d | obtain rfl := one1 da d | (rw [da] at d; cases d)))
  have vr : ∀ y u, Var env h m y u → Var env h' m y u := fun y u V => by
    cases V with
    | loc a b => exact .loc a b
    | cell c a b e => exact .cell c a b (cl _ _ e)
    | free c a b e => exact .free c a b (cl _ _ e)
  exact {
    wd₀ := F.wd₀, tab := t, keep := k
    hid := fun b hb => by
      obtain ⟨ob, e⟩ := F.hid b hb
      by_cases q : b = a
      · subst q; obtain ⟨o', _, e', _⟩ := hp; exact ⟨o', e'⟩
      · exact ⟨ob, hs.extBut b ob q e⟩
    sub := F.sub, loc := F.loc
    cells := fun y c a => let ⟨⟨v, e⟩, z⟩ := F.cells y c a; ⟨⟨v, cl _ _ e⟩, z⟩
    frame := ⟨m, k1.sameBut hs (fun q => by
          obtain ⟨o, es, ep, e, d', _⟩ := k1
          (first | exact none2 q ea e | obtain rfl := one2 q ea e | (rw [q, ea] at e; cases e)); (first | exact clash da d' | exact none1 da d' | obtain rfl := one1 da d' | (rw [da] at d'; cases d'))), fun y d hy => let ⟨u, V, B⟩ := k2 y d hy; ⟨u, vr y u V, B.mono vs1⟩, fun y b es hy => by
        cases hy
        exact ⟨vr _ _ V', a1, a2, vs', hp, hd.mono vs1⟩⟩ }
section
variable {c : Cx} {S : St} {o : Out} {rest : List Stmt} {ks : List (List Stmt)}
theorem ev_own_item (H : EnvOk c.env) {x : Str} {p pos : Pos} {ix : Expr} {a : Addr} {ds : List D} {j : Nat} {d : D} (hw : S.own = some (x, a, ds)) (hi : Ev b0 c S ix (.int (j : Int))) (hj : ds[j]? = some d) (hz : j < 2 ^ 40)
    (hs : ∀ o i, subscripted ix false o i = operate [o, i] (getItem o i) := by intro _ _; rfl) (hdn : (x == ("__debug__" : Str)) = false := by decide +kernel) (hn : (x == ("__classdict__" : Str)) = false := by decide +kernel) : Ev b0 c S (.Subscript (.Name x p) ix pos) d := ⟨fun s F =>
  Subscript_ (by
    obtain ⟨m, h1, h2, h3⟩ := F.frame
    obtain ⟨V, a1, a2, vs, a3, a4⟩ := h3 x a ds hw
    refine ev_var H h1 V (hi.use F fun u s₂ e₂ F₂ A₂ => ?_) hdn hn
    cases A₂ with
    | int _ t =>
      obtain ⟨m', k1, k2, k3⟩ := F₂.frame
      obtain ⟨V', _, _, vs', b3, b4⟩ := k3 x a ds hw
      obtain ⟨v, hv, A⟩ := b4.get' hj
      exact tail_any b3.isList.typeIs slot_list_getitem.lookup (wpAny_getItem_list b3.isList (Int.natCast_nonneg _) (by omega) (by simpa using hv) ⟨e₂, A⟩) (hs _ _))⟩
theorem run_setown (H : EnvOk c.env) {x : Str} {p sp pos : Pos} {ix e : Expr} {a : Addr} {ds : List D} {j : Nat} {d : D} (hw : S.own = some (x, a, ds)) (he : Ev b0 c S e d) (hi : Ev b0 c S ix (.int (j : Int))) (hj : j < ds.length) (hz : j < 2 ^ 40) (h : Run b0 c { S with own := some (x, a, ds.set j d) } rest ks o)
    (hs : swapsWith e (some (.Subscript (.Name x p) ix sp)) pos.line c.env = pure false := by rfl) (hdn : (x == ("__debug__" : Str)) = false := by decide +kernel) (hn : (x == ("__classdict__" : Str)) = false := by decide +kernel) :
    Run b0 c S (.Assign [.Subscript (.Name x p) ix sp] e pos :: rest) ks o := run_cons fun s F =>
  wpAny_Assign_Subscript (he.use F fun v s₁ e₁ F₁ A₁ => by
    obtain ⟨m, h1, h2, h3⟩ := F₁.frame
    obtain ⟨V, a1, a2, vs, a3, a4⟩ := h3 x a ds hw
    refine ev_var H h1 V (hi.use F₁ fun u s₂ e₂ F₂ A₂ => ?_) hdn hn
    cases A₂ with
    | int _ t =>
      obtain ⟨m', k1, k2, k3⟩ := F₂.frame
      obtain ⟨V', _, _, vs', b3, b4⟩ := k3 x a ds hw
      have hl : vs'.size = ds.length := by have := b4.length; simpa using this
      refine setItem_plain b3 (Int.natCast_nonneg _) (by omega) (by omega) fun h' hp' hs' => ⟨(e₁.trans e₂).same.trans ⟨h', _, rfl⟩, { S with own := some (x, a, ds.set j d) }, ⟨rfl, rfl⟩, F₂.ownSet hw hp' hs' ?_, h⟩
      rw [Int.toNat_natCast, Array.toList_setIfInBounds]
      exact b4.set (A₁.mono (vw_sub F₁.tab e₂.grow))) hs
end

end Mine
/- part B29 -/
namespace Mine
open PySem PySem.W PySem.Calls PyProof.Rows
variable {b0 : Nat}
section
variable {c : Cx} {S : St} {rest : List Stmt} {ks : List (List Stmt)}
theorem run_ret_post {e : Expr} {pos : Pos} {d : D} {P : Value → Heap → Prop} (he : Ev b0 c S e d) (hP : ∀ v h, FS b0 c.w c.env S h → DAt (vw S.T h) v d → P v h) : Run b0 c S (.Return (some e) pos :: rest) ks (.post P) := run_cons fun s F =>
  wpAny_Return_some (he.use F fun v s₁ e₁ F₁ A₁ => ⟨e₁.same, v, rfl, F₁.grown, hP _ _ F₁ A₁⟩)
end
theorem take_bytes (b : Array UInt8) (n : Nat) : cut b.toList none (some (n : Int)) = b.toList.take n := cut_to _ _
/-- the reading function's frame -/
noncomputable abbrev rdFd (w : World) (c : Addr) (doc pm : Value) (c' : Addr) (ctv : Value) : FuncData := fnX "read" qualRead (rdParams w) (rdBody w) (rdScope w) [("left", c)] .none .none doc pm none (.ref c') ctv
noncomputable abbrev rdEnv (w : World) (L rd c : Addr) (c' : Addr) : Env := newEnv (rdScope w) L mainGlobals [("left", c)] (qualRead ++ ".<locals>.") (some rd) (.ref c') none builtinsNs
theorem read_run {prog : Program} {w : World} {A : Around} {L rd c l c' : Addr} {n : Nat} {b : Array UInt8} {h₀ : Heap} {tk : Tok} (R : Room 0 A) (hz : b.size ≤ 100000) :
    Run b0 ⟨prog, w, A, rdEnv w L rd c c'⟩ { h₀ := h₀, T₀ := [l], T := [l], σ := [("size", .int (n : Int))], own := some ("left", l, [.bytes b]) } (rdBody w) [] (.post fun v h => (∃ t', v = .bytes (b.toList.take n).toArray t') ∧ ∃ tk', PlainL h l #[.bytes (b.toList.drop n).toArray tk']) := by
  have H : EnvOk (rdEnv w L rd c c') := ⟨rfl, rfl, rfl, fun x y a _ hx hy => by
    have e : ∀ z a, (rdEnv w L rd c c').cells.lookup z = some a → z = "left" := fun z a hz => by
      have := mem_of_lookup hz
      have := List.mem_singleton.mp this
      cases this; rfl
    rw [e x a hx, e y a hy]⟩
  refine run_assign H (ev_slice (ev_own_item H rfl (ev_int (i := 0)) (j := 0) rfl (by decide)) .none (.some (ev_name H (by repeat (first | exact lk_here | refine lk_there (by decide +kernel) ?_)))) (sl_bytes hz)) (.inl rfl) (fun y a ds q => by cases q; decide +kernel) ?_
  refine run_setown H rfl (ev_slice (ev_own_item H rfl (ev_int (i := 0)) (j := 0) rfl (by decide)) (.some (ev_name H (by repeat (first | exact lk_here | refine lk_there (by decide +kernel) ?_)))) .none (sl_bytes hz)) (ev_int (i := 0)) (j := 0) (by show 0 < 1; decide) (by decide) ?_
  refine run_ret_post (ev_name H (by repeat (first | exact lk_here | refine lk_there (by decide +kernel) ?_))) fun v h F hv => ?_
  cases hv with
  | bytes _ t' =>
    rw [cut_to]
    refine ⟨⟨t', rfl⟩, ?_⟩
    obtain ⟨m, h1, h2, h3⟩ := F.frame
    obtain ⟨V, a1, a2, us, a3, a4⟩ := h3 "left" l _ rfl
    rw [cut_from] at a4
    obtain ⟨l'⟩ := us
    cases a4 with
    | cons q1 q2 => cases q1; cases q2; exact ⟨_, a3⟩
set_option maxHeartbeats 4000000 in
theorem read_call {prog : Program} {w : World} {A : Around} {s : Shared} {rd c l : Addr} {n : Nat} {t tk : Tok} {b : Array UInt8} (R : Room 1 A) (W : Wd b0 w (hideAll s.heap [l])) (hT : TabOk s.heap) (hrd : RdFn w s.heap rd c) (hc : s.heap.IsCell c (some (.ref l))) (hl : PlainL s.heap l #[.bytes b tk]) (hz : b.size ≤ 100000) :
    codeAny (model prog w) A (.call (.ref rd) ⟨[.int (n : Int) t], []⟩) (fun res s' => (∃ t', res = .ok (.ret (.bytes (b.toList.take n).toArray t'))) ∧ Same s s' ∧ (∀ x o, x ≠ 149 → (hideAll s.heap [l]).get? x = some o → Up b0 s'.heap x o) ∧ TabOk s'.heap ∧ ∃ tk', PlainL s'.heap l #[.bytes (b.toList.drop n).toArray tk']) s := by
  obtain ⟨doc, pm, c', ctv, ho, hrec⟩ := hrd
  have hlim : s.heap.NoLimit := W.lim.keeps fun b o e => of_hideAll _ e
  refine codeAny_call_function (o := _) (fd := rdFd w c doc pm c' ctv) R.room ho rfl rfl rfl rfl hrec ?_
  have hb : bindArgs (rdFd w c doc pm c' ctv) ⟨[.int (n : Int) t], []⟩ = (pure [(("size" : Str), Value.int (n : Int) t)] : Sem (List (Str × Value))) := rfl
  rw [hb]
  with_reducible refine wpAny_pure ?_
  refine wpAny_newFunctionEnv (by
    have : ((rdScope w).names.all fun x => x.2 != .cell) = true := rfl
    intro x hx e
    have := List.all_eq_true.mp this x hx
    rw [e] at this; simp at this) (fun x hx => by rw [List.mem_singleton.mp hx]; rfl) (fun h₀ hns hsb => ⟨hlim.fresh _ hsb, codeAny_func ?_⟩) rfl
  generalize hL : s.heap.objs.size = L at hns hsb
  have hLn : s.heap.get? L = none := hL ▸ fresh_none _
  have keep : ∀ x o, s.heap.get? x = some o → h₀.get? x = some o := fun x o e => hsb.extBut x o (fun q => by (first | exact none2 q hLn e | obtain rfl := one2 q hLn e | (rw [q, hLn] at e; cases e))) (Heap.get?_push_of_some _ e)
  have hT₀ : TabOk h₀ := hT.keeps keep
  have hl₀ : PlainL h₀ l #[.bytes b tk] := hl.keeps keep
  have F : FS b0 w (rdEnv w L rd c c') { h₀ := hideAll s.heap [l], T₀ := [l], T := [l], σ := [("size", .int (n : Int))], own := some ("left", l, [.bytes b]) } h₀ := by
    refine ⟨W, hT₀, fun x o _ e => .inl (keep _ _ (of_hideAll _ e)), fun a ha => ?_, fun a ha => ha, ?_, fun x a e => ?_, _, hns, fun y d hy => ?_, fun y a ds hy => ?_⟩
    · obtain rfl := List.mem_singleton.mp ha
      obtain ⟨o, _, e, _⟩ := hl₀
      exact ⟨o, e⟩
    · show (hideAll s.heap [l]).get? L = none
      cases q : (hideAll s.heap [l]).get? L with
      | none => rfl
      | some o => (first | exact clash (of_hideAll _ q) hLn | exact none1 (of_hideAll _ q) hLn | obtain rfl := one1 (of_hideAll _ q) hLn | (rw [of_hideAll _ q] at hLn; cases hLn))
    · have := List.mem_singleton.mp (mem_of_lookup e)
      cases this
      exact ⟨⟨_, hc.keeps keep⟩, fun k => by cases k⟩
    · obtain ⟨rfl, rfl⟩ : y = "size" ∧ d = .int (n : Int) := by
        have := List.mem_singleton.mp (mem_of_lookup hy)
        cases this; exact ⟨rfl, rfl⟩
      exact ⟨.int (n : Int) t, .loc rfl rfl, .int _ _⟩
    · cases hy
      exact ⟨.free c rfl rfl (hc.keeps keep), List.mem_singleton.mpr rfl, hideAll_none _ (List.mem_singleton.mpr rfl), _, hl₀, .cons (.bytes _ _) .nil⟩
  have run := read_run (b0 := b0) (prog := prog) (w := w) (A := A.deeper (rdEnv w L rd c c')) (L := L) (rd := rd) (c := c) (l := l) (c' := c') (n := n) (b := b) (h₀ := hideAll s.heap [l]) (tk := tk) R.deeper hz
  refine wpAny_mono (run.go { s with heap := h₀, toks := s.toks + 1 } F) (fun f s₂ q => ?_) fun _ _ x => x.elim
  have key : ∀ f', f = f' → Same { s with heap := h₀, toks := s.toks + 1 } s₂ → (∃ v, f' = .ret v ∧ Grow b0 (hideAll s.heap [l]) s₂.heap ∧ (∃ t', v = .bytes (b.toList.take n).toArray t') ∧ ∃ tk', PlainL s₂.heap l #[.bytes (b.toList.drop n).toArray tk']) →
      (∃ t', (Except.ok (Flow.ret (match f with | .ret v => v | _ => .none)) : Result) = .ok (.ret (.bytes (b.toList.take n).toArray t'))) ∧ Same s s₂ ∧ (∀ x o, x ≠ 149 → (hideAll s.heap [l]).get? x = some o → Up b0 s₂.heap x o) ∧ TabOk s₂.heap ∧ ∃ tk', PlainL s₂.heap l #[.bytes (b.toList.drop n).toArray tk'] := by
    rintro f' rfl h1 ⟨v, rfl, g, ⟨t', rfl⟩, p⟩
    exact ⟨⟨t', rfl⟩, Same.trans ⟨h₀, _, rfl⟩ h1, g.1, g.2 W.tab, p⟩
  cases f with
  | next => exact key .next rfl q.1 q.2
  | brk => exact key .brk rfl q.1 q.2
  | cont => exact key .cont rfl q.1 q.2
  | ret v => exact key (.ret v) rfl q.1 q.2

end Mine
/- part B30 -/
namespace Mine
open PySem PySem.W PySem.Calls PyProof.Rows
variable {b0 : Nat}
def isDictO : Option Obj → Bool
  | some o => (match o.data with | .dict _ _ => true | _ => false)
  | none => false
/-- what an exception's way leaves wholly as it is -/
def baseOf (b0 : Nat) (l : Addr) (h : Heap) : Heap := hideAll h (l :: (List.range h.objs.size).filter fun x => decide (b0 ≤ x) && isDictO (h.get? x))
theorem base_of {l : Addr} {h : Heap} {x : Addr} {o : Obj} (e : (baseOf b0 l h).get? x = some o) : h.get? x = some o := of_hideAll _ e
theorem base_get {l : Addr} {h : Heap} {x : Addr} {o : Obj} (e : h.get? x = some o) (nl : x ≠ l) (nd : b0 ≤ x → ∀ es ep, o.data ≠ .dict es ep) : (baseOf b0 l h).get? x = some o := by
  refine hideAll_get _ e fun hm => ?_
  rcases List.mem_cons.mp hm with hm | hm
  · exact nl hm
  obtain ⟨_, hm⟩ := List.mem_filter.mp hm
  rw [Bool.and_eq_true, decide_eq_true_eq, e] at hm
  obtain ⟨k1, k2⟩ := hm
  unfold isDictO at k2
  split at k2
  · rename_i o' q
    cases q
    split at k2
    · rename_i es ep q; exact nd k1 _ _ q
    · cases k2
  · cases k2
theorem base_loose {l : Addr} {h : Heap} {x : Addr} {o : Obj} {es : Array DictEntry} {ep : Nat} (e : h.get? x = some o) (k : b0 ≤ x) (d : o.data = .dict es ep) : (baseOf b0 l h).get? x = none := by
  refine hideAll_none _ (List.mem_cons_of_mem _ (List.mem_filter.mpr ⟨List.mem_range.mpr (Heap.lt_size e), ?_⟩))
  rw [Bool.and_eq_true, decide_eq_true_eq, e]
  exact ⟨k, by unfold isDictO; simp only [d]⟩
theorem base_l {l : Addr} {h : Heap} : (baseOf b0 l h).get? l = none := hideAll_none _ (List.mem_cons_self ..)
theorem up_of {l : Addr} {h h' : Heap} (st : (baseOf b0 l h).StaysIn h') (us : ∀ x o, x ≠ l → h.get? x = some o → (∀ vs, o.data ≠ .fields vs) → ∃ sl, h'.get? x = some { o with slots := sl }) : ∀ x o, x ≠ l → h.get? x = some o → Up b0 h' x o := fun x o nl e => by
  by_cases hd : b0 ≤ x ∧ ∃ es ep, o.data = .dict es ep
  · obtain ⟨k, es, ep, d⟩ := hd
    obtain ⟨sl, e'⟩ := us x o nl e fun vs q => by (first | exact clash d q | exact none1 d q | obtain rfl := one1 d q | (rw [d] at q; cases q))
    exact .inr ⟨k, es, ep, sl, d, e'⟩
  · exact .inl (st x o (base_get e nl fun k es ep d => hd ⟨k, es, ep, d⟩))
/-- the frames of the stack -/
def Frames (b0 : Nat) (h : Heap) : List Env → Prop
  | [] => True
  | env :: rest => env.scope.kind ≠ .module ∧ (∃ L m, env.frame = some L ∧ b0 ≤ L ∧ h.Ns L m) ∧ Frames b0 h rest
theorem Frames.up {h h' : Heap} (k : ∀ x o es ep, h.get? x = some o → o.data = .dict es ep → ∃ sl, h'.get? x = some { o with slots := sl }) : ∀ {l : List Env}, Frames b0 h l → Frames b0 h' l
  | [], _ => trivial
  | _ :: _, ⟨a, ⟨L, m, f, b, o, es, ep, e, d, r⟩, t⟩ => ⟨a, ⟨L, m, f, b, by obtain ⟨sl, e'⟩ := k L o es ep e d; exact ⟨_, es, ep, e', d, r⟩⟩, Frames.up k t⟩
theorem Frames.fun {h : Heap} {l : Addr} : ∀ {fs : List Env}, Frames b0 h fs → h.FunFrames (baseOf b0 l h) fs
  | [], _ => trivial
  | _ :: _, ⟨a, ⟨L, m, f, b, o, es, ep, e, d, r⟩, t⟩ => ⟨a, ⟨L, o, f, base_loose e b d, e, fun vs q => by (first | exact clash d q | exact none1 d q | obtain rfl := one1 d q | (rw [d] at q; cases q))⟩, Frames.fun t⟩
/-- a reader's contract: told, or refused by ValueError -/
structure Rd (b0 : Nat) (prog : Program) (w : World) (k : Nat) (a : Addr) (b b' : Array UInt8) (out : Option D) : Prop where
  go : ∀ A s sm l outer, Room k A → A.frames = some outer → Wd b0 w (hideAll s.heap [l]) → TabOk s.heap → StreamAt w s.heap sm l b → Frames b0 s.heap outer → b0 ≤ s.heap.objs.size →
    codeAny (model prog w) A (.call (.ref a) ⟨[.ref sm], []⟩) (fun res s' => Same s s' ∧ (∀ x o, x ≠ 149 → x ≠ l → s.heap.get? x = some o → Up b0 s'.heap x o) ∧ TabOk s'.heap ∧ StreamAt w s'.heap sm l b' ∧ Frames b0 s'.heap outer ∧
      match out with
      | some d => ∃ v, res = .ok (.ret v) ∧ ∀ g, DAt g v d
      | none => ∃ B e t, res = .error (.ref e) ∧ Heap.FlyingW B outer e (.type "ValueError") (.ref t) s'.heap ∧ TabOk B ∧ ∀ x o, x ≠ 149 → x ≠ l → s.heap.get? x = some o → (b0 ≤ x → ∀ es ep, o.data ≠ .dict es ep) → B.get? x = some o) s

theorem TabOk.base {l : Addr} {h : Heap} (t : TabOk h) (hl : ∀ o, h.get? l = some o → ∀ vs, o.data ≠ .fields vs) : TabOk (baseOf b0 l h) := by
  obtain ⟨ps, h1, h2, h3, h4⟩ := t
  have k : ∀ x o vs, h.get? x = some o → o.data = .fields vs → (baseOf b0 l h).get? x = some o := fun x o vs e d => base_get e (fun q => hl o (q ▸ e) vs d) fun _ es ep q => by (first | exact clash d q | exact none1 d q | obtain rfl := one1 d q | (rw [d] at q; cases q))
  have key : ∀ c q, h.CodeRec (.ref c) q → (baseOf b0 l h).CodeRec (.ref c) q := fun c q ⟨c', o, vs, t, e, g, d, r⟩ => ⟨c', o, vs, t, e, k _ _ _ g d, d, r⟩
  exact ⟨ps, k _ _ _ h1 rfl, h2, h3.imp id fun ⟨c, a, b⟩ => ⟨c, a, key c _ b⟩, h4.imp id fun ⟨c, a, b⟩ => ⟨c, a, key c _ b⟩⟩

end Mine
/- part B31 -/
namespace Mine
open PySem PySem.W PySem.Calls PyProof.Rows
variable {b0 : Nat}
/-- all but l goes on, up to a frame's slots -/
def Keep (b0 : Nat) (l : Addr) (h h' : Heap) : Prop := ∀ x o, x ≠ 149 → x ≠ l → h.get? x = some o → Up b0 h' x o
theorem Keep.refl {l : Addr} {h : Heap} : Keep b0 l h h := fun x o _ _ e => .inl e
theorem Keep.trans {l : Addr} {h h' h'' : Heap} (x : Keep b0 l h h') (y : Keep b0 l h' h'') : Keep b0 l h h'' := fun a o n nl e => (x a o n nl e).next fun o' e' => y a o' n nl e'
theorem Keep.grow {l : Addr} {h h' : Heap} (k : Grow b0 h h') : Keep b0 l h h' := fun a o n _ e => k.1 a o n e
def OwnOff (S : St) (l : Addr) : Prop := ∀ x a ds, S.own = some (x, a, ds) → a ≠ l
theorem FS.upl {w : World} {env : Env} {S : St} {h h' : Heap} {l : Addr} (F : FS b0 w env S h) (hown : OwnOff S l) (hl : l ∈ S.T) (hl0 : S.h₀.get? l = none) (hll : ∃ o vs n, h.get? l = some o ∧ o.data = .seq vs n) (k : Keep b0 l h h') (t : TabOk h') (hex : ∃ o, h'.get? l = some o) : FS b0 w env S h' := by
  obtain ⟨ol, lv, ln, el, dl⟩ := hll
  have up : ∀ x o, x ≠ 149 → h.get? x = some o → (∀ vs n, o.data ≠ .seq vs n) → Up b0 h' x o := fun x o n e d => k x o n (fun q => by (first | exact none2 q el e | obtain rfl := one2 q el e | (rw [q, el] at e; cases e)); exact d _ _ dl) e
  have n149 : ∀ x o, h.get? x = some o → (∀ vs, o.data ≠ .fields vs) → x ≠ 149 := fun x o e d q => by
    obtain ⟨ps, e', _⟩ := F.tab
    (first | exact none2 q e' e | obtain rfl := one2 q e' e | (rw [q, e'] at e; cases e)); exact d _ rfl
  have cl : ∀ c v, h.IsCell c v → h'.IsCell c v := fun c v ⟨o, e, d⟩ => ⟨o, (up c o (n149 _ _ e fun vs q => by (first | exact clash d q | exact none1 d q | obtain rfl := one1 d q | (rw [d] at q; cases q))) e fun vs n q => by (first | exact clash d q | exact none1 d q | obtain rfl := one1 d q | (rw [d] at q; cases q))).nd (fun es ep q => by (first | exact clash d q | exact none1 d q | obtain rfl := one1 d q | (rw [d] at q; cases q))), d⟩
  have vs' : Sub (vw S.T h) (vw S.T h') := fun b ob e hc hd => by
    unfold vw at e ⊢
    split at e
    · cases e
    · rename_i hb
      rw [if_neg hb]
      obtain ⟨us, n, hd⟩ := hd
      exact (k b ob (n149 _ _ e fun vs q => by (first | exact clash hd q | exact none1 hd q | obtain rfl := one1 hd q | (rw [hd] at q; cases q))) (fun q => hb (q ▸ hl)) e).nd fun es ep q => by (first | exact clash hd q | exact none1 hd q | obtain rfl := one1 hd q | (rw [hd] at q; cases q))
  have vr : ∀ m y u, Var env h m y u → Var env h' m y u := fun m y u V => by
    cases V with
    | loc a b => exact .loc a b
    | cell c a b e => exact .cell c a b (cl _ _ e)
    | free c a b e => exact .free c a b (cl _ _ e)
  obtain ⟨m, ⟨o, es, ep, e, d, r⟩, h2, h3⟩ := F.frame
  have ns : h'.Ns env.locals m := by
    rcases up _ _ (n149 _ _ e fun vs q => by (first | exact clash d q | exact none1 d q | obtain rfl := one1 d q | (rw [d] at q; cases q))) e (fun vs n q => by (first | exact clash d q | exact none1 d q | obtain rfl := one1 d q | (rw [d] at q; cases q))) with e' | ⟨_, _, _, sl, _, e'⟩
    · exact ⟨o, es, ep, e', d, r⟩
    · exact ⟨_, es, ep, e', d, r⟩
  refine ⟨F.wd₀, t, fun b o n e => (F.keep b o n e).next fun o' e' => k b o' n (fun q => by (first | exact none2 q hl0 e | obtain rfl := one2 q hl0 e | (rw [q, hl0] at e; cases e))) e', fun b hb => ?_, F.sub, F.loc, fun x c a => let ⟨⟨v, e⟩, z⟩ := F.cells x c a; ⟨⟨v, cl _ _ e⟩, z⟩, m, ns, fun y d e => let ⟨v, V, B⟩ := h2 y d e; ⟨v, vr _ _ _ V, B.mono vs'⟩, fun y a ds e => by
    obtain ⟨V, a1, a2, vs, ⟨o, n, e', cc, d0, d⟩, a4⟩ := h3 y a ds e
    exact ⟨vr _ _ _ V, a1, a2, vs, ⟨o, n, (k a o (n149 _ _ e' fun vs q => by (first | exact clash d q | exact none1 d q | obtain rfl := one1 d q | (rw [d] at q; cases q))) (hown y a ds e) e').nd (fun es ep q => by (first | exact clash d q | exact none1 d q | obtain rfl := one1 d q | (rw [d] at q; cases q))), cc, d0, d⟩, a4.mono vs'⟩⟩
  by_cases q : b = l
  · subst q; exact hex
  · obtain ⟨ob, e⟩ := F.hid b hb
    by_cases q' : b = 149
    · subst q'
      obtain ⟨ps, e', _⟩ := t
      exact ⟨_, e'⟩
    · exact (k b ob q' q e).there
theorem RdFn.keep {w : World} {h h' : Heap} {rd c l : Addr} (x : RdFn w h rd c) (t : TabOk h) (hll : ∃ o vs n, h.get? l = some o ∧ o.data = .seq vs n) (k : Keep b0 l h h') : RdFn w h' rd c := by
  obtain ⟨doc, pm, c', ctv, e, hr⟩ := x
  obtain ⟨ol, lv, ln, el, dl⟩ := hll
  refine ⟨doc, pm, c', ctv, (k _ _ (fun q => ?_) (fun q => by (first | exact none2 q el e | obtain rfl := one2 q el e | (rw [q, el] at e; cases e)); cases dl) e).nd (fun es ep q => by cases q), ?_⟩
  · obtain ⟨ps, e', _⟩ := t
    (first | exact none2 q e' e | obtain rfl := one2 q e' e | (rw [q, e'] at e; cases e))
  · obtain ⟨c, o, vs, tk, e1, e2, e3, e4⟩ := hr
    refine ⟨c, o, vs, tk, e1, (k _ _ (fun z => ?_) (fun q => by (first | exact none2 q el e2 | obtain rfl := one2 q el e2 | (rw [q, el] at e2; cases e2)); (first | exact clash dl e3 | exact none1 dl e3 | obtain rfl := one1 dl e3 | (rw [dl] at e3; cases e3))) e2).nd (fun es ep q => by (first | exact clash e3 q | exact none1 e3 q | obtain rfl := one1 e3 q | (rw [e3] at q; cases q))), e3, e4⟩
    obtain ⟨ps, e', ht, _⟩ := t
    subst z
    (first | exact clash e' e2 | exact none1 e' e2 | obtain rfl := one1 e' e2 | (rw [e'] at e2; cases e2)); cases e3
    have : ∀ (l : List Value), TriplesOk l → ∀ q t, l[1]? ≠ some (.str q t) := fun l hl q t z => by
      match l, hl with
      | .int _ _ :: .int _ _ :: _ :: _, _ => simp at z
    exact this _ ht _ _ (by rw [Array.getElem?_toList]; exact e4)
theorem StreamAt.list {w : World} {h : Heap} {sm l : Addr} {b : Array UInt8} (x : StreamAt w h sm l b) : ∃ o vs n, h.get? l = some o ∧ o.data = .seq vs n := by
  obtain ⟨d, rd, c, oS, fdS, m, tk, e1, e2, e3, e4, e5, e6, e7, e8, o, n, e9, _, _, e10⟩ := x
  exact ⟨o, _, n, e9, e10⟩
theorem StreamAt.keep {w : World} {h h' : Heap} {sm l : Addr} {b b' : Array UInt8} {tk' : Tok} (x : StreamAt w h sm l b) (t : TabOk h) (k : Keep b0 l h h') (p : PlainL h' l #[.bytes b' tk']) : StreamAt w h' sm l b' := by
  have hll := x.list
  obtain ⟨d, rd, c, oS, fdS, m, tk, e1, e2, e3, e4, e5, e6, e7, e8, e9⟩ := x
  obtain ⟨ol, lv, ln, el, dl⟩ := id hll
  have n149 : ∀ x o, h.get? x = some o → (∀ vs, o.data ≠ .fields vs) → x ≠ 149 := fun x o e d q => by
    obtain ⟨ps, e', _⟩ := t
    (first | exact none2 q e' e | obtain rfl := one2 q e' e | (rw [q, e'] at e; cases e)); exact d _ rfl
  have nl : ∀ x o, h.get? x = some o → (∀ vs n, o.data ≠ .seq vs n) → x ≠ l := fun x o e d q => by
    (first | exact none2 q el e | obtain rfl := one2 q el e | (rw [q, el] at e; cases e)); exact d _ _ dl
  refine ⟨d, rd, c, oS, fdS, m, tk', (k _ _ (n149 _ _ e1 fun vs q => by (first | exact clash e4 q | exact none1 e4 q | obtain rfl := one1 e4 q | (rw [e4] at q; cases q))) (nl _ _ e1 fun vs n q => by (first | exact clash e4 q | exact none1 e4 q | obtain rfl := one1 e4 q | (rw [e4] at q; cases q))) e1).nd (fun es ep q => by (first | exact clash e4 q | exact none1 e4 q | obtain rfl := one1 e4 q | (rw [e4] at q; cases q))), e2, e3, e4, ?_, e6, e7.keep t hll k, ?_, p⟩
  · obtain ⟨o, es, ep, e, dd, r⟩ := e5
    rcases k _ _ (n149 _ _ e fun vs q => by (first | exact clash dd q | exact none1 dd q | obtain rfl := one1 dd q | (rw [dd] at q; cases q))) (nl _ _ e fun vs n q => by (first | exact clash dd q | exact none1 dd q | obtain rfl := one1 dd q | (rw [dd] at q; cases q))) e with e' | ⟨_, _, _, sl, _, e'⟩
    · exact ⟨o, es, ep, e', dd, r⟩
    · exact ⟨_, es, ep, e', dd, r⟩
  · obtain ⟨o, e, dd⟩ := e8
    exact ⟨o, (k _ _ (n149 _ _ e fun vs q => by (first | exact clash dd q | exact none1 dd q | obtain rfl := one1 dd q | (rw [dd] at q; cases q))) (nl _ _ e fun vs n q => by (first | exact clash dd q | exact none1 dd q | obtain rfl := one1 dd q | (rw [dd] at q; cases q))) e).nd (fun es ep q => by (first | exact clash dd q | exact none1 dd q | obtain rfl := one1 dd q | (rw [dd] at q; cases q))), dd⟩

end Mine
/- part B32 -/
namespace Mine
open PySem PySem.W PySem.Calls PyProof.Rows
variable {b0 : Nat}
theorem StreamAt.grow {w : World} {h h' : Heap} {sm l : Addr} {b : Array UInt8} (x : StreamAt w h sm l b) (t : TabOk h) (k : Grow b0 h h') : StreamAt w h' sm l b := by
  obtain ⟨_, _, _, _, _, _, tk, _, _, _, _, _, _, _, _, e9⟩ := id x
  exact x.keep t (Keep.grow k) (PlainL_grow t k e9)
theorem FS.wdHide {w : World} {env : Env} {S : St} {h : Heap} {l : Addr} (F : FS b0 w env S h) (hl0 : S.h₀.get? l = none) (hll : ∃ o vs n, h.get? l = some o ∧ o.data = .seq vs n) : Wd b0 w (hideAll h [l]) := by
  obtain ⟨g, p, loose, mean, mg, mb, st, B⟩ := F.wd₀.ex
  obtain ⟨ol, lv, ln, el, dl⟩ := hll
  refine ⟨⟨g, p, loose, mean, mg, mb, fun b o e => ?_, B⟩, F.tab.hide fun b hb o e vs d => ?_⟩
  · have e' := (F.keep b o (fun q => by (first | exact none2 q B.no e | obtain rfl := one2 q B.no e | (rw [q, B.no] at e; cases e))) (st b o e)).lo (Nat.lt_of_lt_of_le (Heap.lt_size e) B.size)
    refine hideAll_get _ e' fun hm => ?_
    rw [List.mem_singleton.mp hm] at e
    (first | exact clash (st _ _ e) hl0 | exact none1 (st _ _ e) hl0 | obtain rfl := one1 (st _ _ e) hl0 | (rw [st _ _ e] at hl0; cases hl0))
  · (first | exact none2 (List.mem_singleton.mp hb) el e | obtain rfl := one2 (List.mem_singleton.mp hb) el e | (rw [List.mem_singleton.mp hb, el] at e; cases e)); (first | exact clash dl d | exact none1 dl d | obtain rfl := one1 dl d | (rw [dl] at d; cases d))
section
variable {c : Cx} {S : St}
theorem ev_read (H : EnvOk c.env) (R : Room 1 c.A) {s : Shared} {sm l : Addr} {b : Array UInt8} {n : Nat} {e : Expr} {p ap cp : Pos} (F : FS b0 c.w c.env S s.heap) (hown : OwnOff S l) (hlT : l ∈ S.T) (hl0 : S.h₀.get? l = none) (hst : StreamAt c.w s.heap sm l b) (hz : b.size ≤ 100000)
    (hf : S.σ.lookup (Str.ofString "f") = some (D.val (.ref sm))) (he : Ev b0 c S e (.int (n : Int))) (hns : (!isStarred e) = true := by rfl) (hst1 : starEach [e] c.env = [(false, eval e c.env)] := by rfl) {pl : Sem Bool}
    (hcall : eval (.Call (.Attribute (.Name "f" p) "read" ap) [e] [] cp) c.env = (do
      let ov ← eval (.Name "f" p) c.env
      standAt ap.atName
      let (f, first) ← holding [ov] (getMethod ov "read" pl)
      callWith cp f first (backTo cp (starEach [e] c.env)) (backToKw cp (keywordEach [] c.env))) := by rfl) :
    wpAny (model c.prog c.w) c.A (eval (.Call (.Attribute (.Name "f" p) "read" ap) [e] [] cp) c.env) (fun v s' => (∃ t', v = .bytes (b.toList.take n).toArray t') ∧ Same s s' ∧ FS b0 c.w c.env S s'.heap ∧ StreamAt c.w s'.heap sm l (b.toList.drop n).toArray ∧ Keep b0 l s.heap s'.heap) NoE s := by
  refine methodCall_KW ((ev_name H hf (by decide +kernel) (by decide +kernel)).use F fun v s₁ e₁ F₁ A₁ => ?_) hcall
  cases A₁
  have st1 := hst.grow F.tab e₁.grow
  obtain ⟨d, rd, c', oS, fdS, m, tk, k1, k2, k3, k4, k5, k6, k7, k8, k9⟩ := id st1
  refine fu_method k1 k2 k3 k4 k5 k6 fun tk' => ?_
  have F₁' : FS b0 c.w c.env S ({ s₁ with toks := tk' } : Shared).heap := F₁
  have fnAt : ∀ h c', RdFn c.w h rd c' → FnAt rd h := fun h c' ⟨doc, pm, cc, ctv, e, _⟩ => ⟨_, _, _, _, e⟩
  show wpAny _ _ (callWith cp (.ref rd) [] (backTo cp (starEach [e] c.env)) []) _ _ _
  refine callWith_F (first := []) (fnAt _ _ k7) (EvAll.use (c := c) (s := { s₁ with toks := tk' }) (.cons he .nil) (by simp only [List.all_cons, hns, List.all_nil]; rfl) F₁' fun vs s₂ e₂ F₂ A₂ => ?_) hst1
  have st2 := st1.grow F₁.tab e₂.grow
  obtain ⟨d2, rd2, c2, oS2, fdS2, m2, tk2, j1, j2, j3, j4, j5, j6, j7, j8, j9⟩ := id st2
  have hrd : rd2 = rd := by
    have := gr_of e₂.grow F₁.tab k1 k4
    (first | exact clash j1 this | exact none1 j1 this | obtain rfl := one1 j1 this | (rw [j1] at this; cases this))
    (first | exact clash k3 j3 | exact none1 k3 j3 | obtain rfl := one1 k3 j3 | (rw [k3] at j3; cases j3))
    obtain ⟨o, es, ep, z1, z2, z3, z4⟩ := Ns_grow F₁.tab e₂.grow k5
    obtain ⟨o', es', ep', y1, y2, y3, y4⟩ := j5
    (first | exact clash z1 y1 | exact none1 z1 y1 | obtain rfl := one1 z1 y1 | (rw [z1] at y1; cases y1))
    (first | exact clash z2 y2 | exact none1 z2 y2 | obtain rfl := one1 z2 y2 | (rw [z2] at y2; cases y2))
    have := (z4 "read").symm.trans (y4 "read")
    rw [k6, j6] at this
    cases this; rfl
  subst hrd
  cases A₂ with
  | cons h1 h2 =>
    cases h1; cases h2
    refine ⟨fnAt _ _ j7, wpAny_call (codeAny_mono (read_call (n := n) R (F₂.wdHide hl0 st2.list) F₂.tab j7 j8 j9 hz) fun res s₃ q => ?_)⟩
    obtain ⟨⟨t', rfl⟩, hs, hk, ht, tk3, hp⟩ := q
    have kk : Keep b0 l s₂.heap s₃.heap := fun x o n nl e => hk x o n (hideAll_get _ e fun hm => nl (List.mem_singleton.mp hm))
    exact ⟨⟨t', rfl⟩, (e₁.same.trans (Same.trans ⟨s₁.heap, tk', rfl⟩ e₂.same)).trans hs, F₂.upl hown hlT hl0 st2.list kk ht (by obtain ⟨o, _, e, _⟩ := hp; exact ⟨o, e⟩), st2.keep F₂.tab kk hp, ((Keep.grow e₁.grow).trans (Keep.grow e₂.grow)).trans kk⟩
end

end Mine
/- part B33 -/
namespace Mine
open PySem PySem.W PySem.Calls PyProof.Rows
variable {b0 : Nat}
/-- a call, refusals told -/
theorem code_callE {prog : Program} {w : World} {A : Around} {s : Shared} {a : Addr} {o : Obj} {fd : FuncData} {body : List Stmt} {args : Args} {binds : List (Str × Value)} {R : Result → Shared → Prop}
    (hroom : A.depth < recursionLimit) (ho : s.heap.get? a = some o) (hdata : o.data = .func fd) (hlim : s.heap.NoLimit) (hcd : s.heap.CodeRec fd.code fd.qualname)
    (hbody : fd.body = .stmts body) (hbind : bindArgs fd args = pure binds) (hclo : fd.closure = [])
    (hkind : ∀ x ∈ binds, fd.scope.names.lookup x.1 = some .local)
    (h : ∀ s₁, InCallC s (callEnvC fd s.heap.objs.size a).locals (bindL (callEnvC fd s.heap.objs.size a).kindOf binds fun _ => none) (callEnvC fd s.heap.objs.size a).cells
        (bindC (callEnvC fd s.heap.objs.size a).kindOf binds fun _ => none) s₁ →
      wpAny (model prog w) (A.deeper (callEnvC fd s.heap.objs.size a)) (execs body (callEnvC fd s.heap.objs.size a)) (fun f s' => R (.ok (.ret (match f with | .ret v => v | _ => .none))) s')
        (fun e s' => wpAny (model prog w) (A.deeper (callEnvC fd s.heap.objs.size a)) (leaving (callEnvC fd s.heap.objs.size a) e) (fun _ s'' => R (.error e) s'') (fun e' s'' => R (.error e') s'') s') s₁)
    (hco : fd.scope.isCoroutine = false) (hgen : fd.scope.isGenerator = false) (hk : fd.scope.kind = .function) :
    codeAny (model prog w) A (.call (.ref a) args) R s := by
  refine codeAny_call_function hroom ho hdata hco hgen hbody hcd ?_
  rw [hclo, hbind]
  with_reducible refine wpAny_pure ?_
  refine wpAny_newFunctionEnv_cells hk (fun x hx => .inl (hkind x hx)) fun env he s' x => ?_
  subst he
  exact ⟨hlim.keeps x.toInCall.keep, codeAny_func (h s' x)⟩
/-- a frame whose entry's heap is told smaller -/
theorem FS.less {w : World} {env : Env} {S : St} {h : Heap} {l : Addr} (F : FS b0 w env S h) (W : Wd b0 w (hideAll S.h₀ [l])) (hc : env.cells = []) : FS b0 w env { S with h₀ := hideAll S.h₀ [l] } h := by
  obtain ⟨m, h1, h2, h3⟩ := F.frame
  have lo : ∀ x, S.h₀.get? x = none → (hideAll S.h₀ [l]).get? x = none := fun x e => by
    cases q : (hideAll S.h₀ [l]).get? x with
    | none => rfl
    | some o => (first | exact clash (of_hideAll _ q) e | exact none1 (of_hideAll _ q) e | obtain rfl := one1 (of_hideAll _ q) e | (rw [of_hideAll _ q] at e; cases e))
  refine ⟨W, F.tab, fun b o n e => F.keep b o n (of_hideAll _ e), F.hid, F.sub, lo _ F.loc, (fun x c e => by (first | exact clash hc e | exact none1 hc e | obtain rfl := one1 hc e | (rw [hc] at e; cases e))), m, h1, h2, fun x a ds e => ?_⟩
  obtain ⟨V, a1, a2, r⟩ := h3 x a ds e
  exact ⟨V, a1, lo _ a2, r⟩
/-- a reader's frame -/
theorem rd_frame {prog : Program} {w : World} {k : Nat} {a : Addr} {oc : Value} {od : Option Addr} {osl : Array (Option Value)} {fd : FuncData} {body : List Stmt} {b : Array UInt8}
    (hK : (frag w.params).lookup a = some ⟨oc, od, .func fd, osl⟩) (hcd : codeIn (frag w.params) fd.code fd.qualname = true) (hbody : fd.body = .stmts body)
    (hclo : fd.closure = []) (hg : fd.globals = mainGlobals) (hb : fd.builtins = builtinsNs) (hk : fd.scope.kind = .function) (hco : fd.scope.isCoroutine = false) (hgen : fd.scope.isGenerator = false)
    (hf : fd.scope.names.lookup (Str.ofString "f") = some NameKind.local) (hcells : ∀ L, (callEnvC fd L a).cells = []) (hbind : ∀ v : Value, bindArgs fd ⟨[v], []⟩ = (pure [(Str.ofString "f", v)] : Sem (List (Str × Value))))
    {A : Around} {s : Shared} {sm l : Addr} {outer : List Env} (R : Room (k + 1) A) (hA : A.frames = some outer) (W : Wd b0 w (hideAll s.heap [l])) (t : TabOk s.heap) (hst : StreamAt w s.heap sm l b) (fr : Frames b0 s.heap outer) (hb0 : b0 ≤ s.heap.objs.size) {Q : Result → Shared → Prop}
    (h : ∀ L s₁, s.heap.get? L = none → EnvOk (callEnvC fd L a) → Room k (A.deeper (callEnvC fd L a)) → (A.deeper (callEnvC fd L a)).frames = some (callEnvC fd L a :: outer) → Same s s₁ → FS b0 w (callEnvC fd L a) { h₀ := hideAll s.heap [l], T₀ := [l], T := [l], σ := [("f", .val (.ref sm))], own := none } s₁.heap → StreamAt w s₁.heap sm l b → Keep b0 l s.heap s₁.heap →
      Frames b0 s₁.heap (callEnvC fd L a :: outer) →
      wpAny (model prog w) (A.deeper (callEnvC fd L a)) (execs body (callEnvC fd L a)) (fun f s' => Q (.ok (.ret (match f with | .ret v => v | _ => .none))) s')
        (fun e s' => wpAny (model prog w) (A.deeper (callEnvC fd L a)) (leaving (callEnvC fd L a) e) (fun _ s'' => Q (.error e) s'') (fun e' s'' => Q (.error e') s'') s') s₁) :
    codeAny (model prog w) A (.call (.ref a) ⟨[.ref sm], []⟩) Q s := by
  have W' : Wd b0 w s.heap := by
    obtain ⟨g, p, loose, mean, mg, mb, st, B⟩ := W.ex
    exact ⟨⟨g, p, loose, mean, mg, mb, fun b o e => of_hideAll _ (st b o e), B⟩, t⟩
  refine code_callE R.room (W'.obj hK) rfl W'.lim (W'.code hcd) hbody (hbind _) hclo (fun x hx => by rw [List.mem_singleton.mp hx]; exact hf) (fun s₁ X => ?_) hco hgen hk
  have hl := hst.list
  obtain ⟨H, hs, F⟩ := call_start (b0 := b0) (T := [l]) (σ := [("f", .val (.ref sm))]) W' (fun x hx => by
    obtain rfl := List.mem_singleton.mp hx
    obtain ⟨o, _, _, e, _⟩ := hl; exact ⟨o, e⟩) hk hg hb (fun p hp => by rw [List.mem_singleton.mp hp]; exact hf) (by simp) rfl (.cons (.val _) .nil) X
  have G : Grow b0 s.heap s₁.heap := .of X.toInCall.keep
  refine h _ s₁ (fresh_none _) H R.deeper (Around.frames_deeper hA) hs (F.less W (hcells _)) (hst.grow t G) (Keep.grow G) ⟨by show fd.scope.kind ≠ .module; rw [hk]; decide, ⟨_, _, rfl, hb0, X.toInCall.ns⟩, fr.up fun x o es ep e d => ⟨o.slots, X.toInCall.keep _ _ e⟩⟩

end Mine
/- part B34 -/
namespace Mine
open PySem PySem.W PySem.Calls PyProof.Rows
variable {b0 : Nat}
theorem Keep.store {l L : Addr} {h h' h'' : Heap} (k : Keep b0 l h h') (hs : Heap.SameBut L h' h'') (hn : h.get? L = none) : Keep b0 l h h'' := fun x o n nl e => (k x o n nl e).exact fun o' e' => hs.extBut x o' (fun q => by (first | exact none2 q hn e | obtain rfl := one2 q hn e | (rw [q, hn] at e; cases e))) e'
theorem same_plain {l L : Addr} {h h' : Heap} {vs : Array Value} (hs : Heap.SameBut L h h') {m : Str → Option Value} (hn : h.Ns L m) (p : PlainL h l vs) : PlainL h' l vs := by
  obtain ⟨o, n, e, c, d0, d⟩ := p
  refine ⟨o, n, hs.extBut l o (fun q => ?_) e, c, d0, d⟩
  obtain ⟨o', es, ep, e', d', _⟩ := hn
  (first | exact none2 q e' e | obtain rfl := one2 q e' e | (rw [q, e'] at e; cases e)); (first | exact clash d d' | exact none1 d d' | obtain rfl := one1 d d' | (rw [d] at d'; cases d'))
/-- what a reader's frame knows on its way -/
structure Way (b0 : Nat) (w : World) (S : St) (env : Env) (sm l : Addr) (b : Array UInt8) (outer : List Env) (s s' : Shared) : Prop where
  same : Same s s'
  fs : FS b0 w env S s'.heap
  keep : Keep b0 l s.heap s'.heap
  list : ∃ tk, PlainL s'.heap l #[.bytes b tk]
theorem Way.stream {w : World} {S : St} {env : Env} {sm l : Addr} {b b' : Array UInt8} {outer : List Env} {s s' : Shared} (y : Way b0 w S env sm l b' outer s s') (t : TabOk s.heap) (st : StreamAt w s.heap sm l b) : StreamAt w s'.heap sm l b' := by
  obtain ⟨tk, p⟩ := y.list
  exact st.keep t y.keep p
theorem Way.ext {w : World} {S : St} {env : Env} {sm l : Addr} {b : Array UInt8} {outer : List Env} {s s' s'' : Shared} (y : Way b0 w S env sm l b outer s s') (e : Ext b0 s' s'') : Way b0 w S env sm l b outer s s'' :=
  ⟨y.same.trans e.same, y.fs.ext e, y.keep.trans (Keep.grow e.grow), by obtain ⟨tk, p⟩ := y.list; exact ⟨tk, PlainL_grow y.fs.tab e.grow p⟩⟩
section
variable {prog : Program} {w : World} {A : Around} {S : St} {env : Env} {sm l : Addr} {b : Array UInt8} {outer : List Env} {s s' : Shared}
theorem Way.read (H : EnvOk env) (R : Room 1 A) (y : Way b0 w S env sm l b outer s s') (t : TabOk s.heap) {b₀ : Array UInt8} (st : StreamAt w s.heap sm l b₀) (hown : OwnOff S l) (hlT : l ∈ S.T) (hl0 : S.h₀.get? l = none) (hz : b.size ≤ 100000) {n : Nat} {e : Expr} {p ap cp : Pos}
    (hf : S.σ.lookup (Str.ofString "f") = some (D.val (.ref sm))) (he : Ev b0 ⟨prog, w, A, env⟩ S e (.int (n : Int))) {pl : Sem Bool}
    {Q : Value → Shared → Prop} {E : Value → Shared → Prop} (h : ∀ v s'', (∃ t', v = .bytes (b.toList.take n).toArray t') → Way b0 w S env sm l (b.toList.drop n).toArray outer s s'' → Q v s'') (hns : (!isStarred e) = true := by rfl) (hst1 : starEach [e] env = [(false, eval e env)] := by rfl)
    (hcall : eval (.Call (.Attribute (.Name "f" p) "read" ap) [e] [] cp) env = (do
      let ov ← eval (.Name "f" p) env
      standAt ap.atName
      let (f, first) ← holding [ov] (getMethod ov "read" pl)
      callWith cp f first (backTo cp (starEach [e] env)) (backToKw cp (keywordEach [] env))) := by rfl) :
    wpAny (model prog w) A (eval (.Call (.Attribute (.Name "f" p) "read" ap) [e] [] cp) env) Q E s' :=
  wpAny_mono (ev_read (c := ⟨prog, w, A, env⟩) H R y.fs hown hlT hl0 (y.stream t st) hz hf he hns hst1 hcall) (fun v s'' q => by
    obtain ⟨q1, q2, q3, q4, q5⟩ := q
    obtain ⟨_, _, _, _, _, _, tk, _, _, _, _, _, _, _, _, e9⟩ := q4
    exact h v s'' q1 ⟨y.same.trans q2, q3, y.keep.trans q5, tk, e9⟩) fun _ _ x => x.elim
theorem Way.set (H : EnvOk env) (y : Way b0 w S env sm l b outer s s') {x : Str} (hown : OwnNot S x) {v : Value} {d : D} (hv : DAt (vw S.T s'.heap) v d) (hk : env.kindOf x = some .local) (hL : s.heap.get? env.locals = none)
    {Q : Unit → Shared → Prop} {E : Value → Shared → Prop} (h : ∀ s'', Way b0 w (S.set x d) env sm l b outer s s'' → Q () s'') : wpAny (model prog w) A (storeName env x v) Q E s' :=
  wpAny_mono (FS.store (prog := prog) (A := A) H y.fs (.data hv hown) (.inl hk)) (fun _ s'' q => by
    obtain ⟨q1, q2, q3, q4⟩ := q
    obtain ⟨m, h1, _⟩ := y.fs.frame
    obtain ⟨tk, p⟩ := y.list
    exact h s'' ⟨y.same.trans q1, q2, y.keep.store (q4 hk) hL, tk, same_plain (q4 hk) h1 p⟩) fun _ _ x => x.elim
end

end Mine
/- part B35 -/
namespace Mine
open PySem PySem.W PySem.Calls PyProof.Rows
variable {b0 : Nat}
/-- a reader's end -/
def RdPost (b0 : Nat) (w : World) (sm l : Addr) (b' : Array UInt8) (outer : List Env) (out : Option D) (s : Shared) (res : Result) (s' : Shared) : Prop :=
  Same s s' ∧ (∀ x o, x ≠ 149 → x ≠ l → s.heap.get? x = some o → Up b0 s'.heap x o) ∧ TabOk s'.heap ∧ StreamAt w s'.heap sm l b' ∧ Frames b0 s'.heap outer ∧
      match out with
      | some d => ∃ v, res = .ok (.ret v) ∧ ∀ g, DAt g v d
      | none => ∃ B e t, res = .error (.ref e) ∧ Heap.FlyingW B outer e (.type "ValueError") (.ref t) s'.heap ∧ TabOk B ∧ ∀ x o, x ≠ 149 → x ≠ l → s.heap.get? x = some o → (b0 ≤ x → ∀ es ep, o.data ≠ .dict es ep) → B.get? x = some o
theorem frames_keep {l : Addr} {h h' : Heap} (t : TabOk h) (hll : ∃ o vs n, h.get? l = some o ∧ o.data = .seq vs n) (k : Keep b0 l h h') {fs : List Env} (f : Frames b0 h fs) : Frames b0 h' fs := f.up fun x o es ep e d => by
  have n : x ≠ 149 := fun q => by
    obtain ⟨ps, e', _⟩ := t
    (first | exact none2 q e' e | obtain rfl := one2 q e' e | (rw [q, e'] at e; cases e)); cases d
  have nl : x ≠ l := fun q => by
    obtain ⟨ol, lv, ln, el, dl⟩ := hll
    (first | exact none2 q el e | obtain rfl := one2 q el e | (rw [q, el] at e; cases e)); (first | exact clash dl d | exact none1 dl d | obtain rfl := one1 dl d | (rw [dl] at d; cases d))
  rcases k x o n nl e with e' | ⟨_, _, _, sl, _, e'⟩
  · exact ⟨o.slots, e'⟩
  · exact ⟨sl, e'⟩
theorem Way.told {w : World} {S : St} {env : Env} {sm l : Addr} {b b₀ : Array UInt8} {outer : List Env} {s s' : Shared} {v : Value} {d : D} (y : Way b0 w S env sm l b outer s s') (t : TabOk s.heap) (st : StreamAt w s.heap sm l b₀) (fr : Frames b0 s.heap outer) (hd : ∀ g, DAt g v d) : RdPost b0 w sm l b outer (some d) s (.ok (.ret v)) s' :=
  ⟨y.same, y.keep, y.fs.tab, y.stream t st, frames_keep t st.list y.keep fr, v, rfl, hd⟩
theorem Way.refused {prog : Program} {w : World} {A : Around} {S : St} {env : Env} {sm l e : Addr} {b b₀ : Array UInt8} {outer : List Env} {s s' : Shared} {h' : Heap} {vs : List Value} (y : Way b0 w S env sm l b outer s s') (t : TabOk s.heap) (st : StreamAt w s.heap sm l b₀) (fr : Frames b0 s.heap outer)
    (hA : A.frames = some (env :: outer)) (hk : env.scope.kind ≠ .module) (hf : env.frame = some env.locals) (hb : b0 ≤ env.locals) (hx : Heap.MadeExc s'.heap h' e "ValueError" vs) :
    wpAny (model prog w) A (leaving env (.ref e)) (fun _ s'' => RdPost b0 w sm l b outer none s (.error (.ref e)) s'') (fun e' s'' => RdPost b0 w sm l b outer none s (.error e') s'') { s' with heap := h' } := by
  have hll : ∃ o vs n, s'.heap.get? l = some o ∧ o.data = .seq vs n := by
    obtain ⟨tk, o, n, e1, _, _, e4⟩ := y.list
    exact ⟨o, _, n, e1, e4⟩
  obtain ⟨m, hn, _⟩ := y.fs.frame
  have fr' : Frames b0 s'.heap (env :: outer) := ⟨hk, ⟨_, m, hf, hb, hn⟩, frames_keep t st.list y.keep fr⟩
  refine wpAny_leaves_madeW (base := baseOf b0 l s'.heap) (h := s'.heap) hA hf (fun x o e => base_of e) fr'.fun hx.of fun h'' tt fly tup tn us => ?_
  have us' : ∀ x o, s'.heap.get? x = some o → (∀ vs, o.data ≠ .fields vs) → ∃ sl, h''.get? x = some { o with slots := sl } := fun x o e nf => us x o (hx.keeps x o e) nf
  have k2 : Keep b0 l s'.heap h'' := fun x o _ nl e => up_of fly.1 (fun x o _ e nf => us' x o e nf) x o nl e
  have k := y.keep.trans k2
  have hlf : ∀ o, s'.heap.get? l = some o → ∀ vs, o.data ≠ .fields vs := fun o e vs q => by
    obtain ⟨ol, lv, ln, el, dl⟩ := hll
    (first | exact clash el e | exact none1 el e | obtain rfl := one1 el e | (rw [el] at e; cases e)); (first | exact clash dl q | exact none1 dl q | obtain rfl := one1 dl q | (rw [dl] at q; cases q))
  have tB : TabOk (baseOf b0 l s'.heap) := y.fs.tab.base hlf
  have p : ∃ tk, PlainL h'' l #[.bytes b tk] := by
    obtain ⟨tk, o, n, e1, e2, e3, e4⟩ := y.list
    obtain ⟨sl, e'⟩ := us' l o e1 (hlf o e1)
    exact ⟨tk, _, n, e', e2, e3, e4⟩
  obtain ⟨tk, p⟩ := p
  refine ⟨y.same.trans ⟨h'', _, rfl⟩, k, tB.keeps fly.1, st.keep t k p, frames_keep t st.list k fr, _, e, tt, rfl, fly, tB, fun x o n nl ex nd => ?_⟩
  rcases y.keep x o n nl ex with e' | ⟨hb', es, ep, sl, d', e'⟩
  · exact base_get e' nl nd
  · exact absurd d' (nd hb' es ep)

end Mine
/- part B36 -/
namespace Mine
open PySem PySem.W PySem.Calls PyProof.Rows
variable {b0 : Nat}
def firstD (b : Array UInt8) : Option D := match b.toList with | [] => none | x :: _ => some (.int (x.toNat : Int))
theorem rd_uint1 {prog : Program} {w : World} {b : Array UInt8} (hz : b.size ≤ 100000) : Rd b0 prog w 2 28 b (b.toList.drop 1).toArray (firstD b) := ⟨fun A s sm l outer R hA W t hst fr hb0 => by
  refine rd_frame (hK := rfl) (by kernel_rfl) rfl rfl rfl rfl rfl rfl rfl rfl (fun L => rfl) (fun v => rfl) R hA W t hst fr hb0 fun L s₁ hL H R₁ hA₁ hs F st kp fr₁ => ?_
  have hll := hst.list
  have p1 : ∃ tk, PlainL s₁.heap l #[.bytes b tk] := by obtain ⟨_, _, _, _, _, _, tk, _, _, _, _, _, _, _, _, e9⟩ := st; exact ⟨tk, e9⟩
  have y1 : Way b0 w _ _ sm l b outer s s₁ := ⟨hs, F, kp, p1⟩
  have hLl : b0 ≤ L := by
    obtain ⟨_, ⟨L', m, e, k, _⟩, _⟩ := fr₁
    cases e; exact k
  refine wpAny_execs_cons (wpAny_Assign_Name (y1.read H R₁ t hst (fun _ _ _ q => by cases q) (List.mem_singleton.mpr rfl) (hideAll_none _ (List.mem_singleton.mpr rfl)) hz (n := 1) lk_here ev_int fun v s₂ hv y2 => ?_) rfl)
  obtain ⟨t', rfl⟩ := hv
  refine y2.set H (x := "data") (fun _ _ _ q => by cases q) (.bytes _ t') rfl hL fun s₃ y3 => ?_
  refine wpAny_execs_cons (wpAny_If (Tst.use (c := ⟨prog, w, A.deeper _, callEnvC _ L 28⟩) (tst_val (ev_name H (by repeat (first | exact lk_here | refine lk_there (by decide +kernel) ?_))) (tru_bytes (by simp; omega))) y3.fs fun s₄ e₄ F₄ => ?_))
  have y4 := y3.ext e₄
  by_cases hb : b.toList = []
  · have hne : (((b.toList.take 1).toArray.size : Int) != 0) = false := by rw [hb]; rfl
    rw [hne, if_neg (by decide)]
    have hd' : firstD b = none := by unfold firstD; rw [hb]
    rw [hd']
    refine wpAny_execs_nil (wpAny_execs_cons (Raise_madeB PySem.F.excCall_ValueError PySem.F.excRaise_ValueError R₁.handled (g_ValueError.go _ _ _ _ _ _ _ H rfl y4.fs.wd ⟨rfl, EvAll.use (c := ⟨prog, w, A.deeper _, callEnvC _ L 28⟩) (S := _) (.cons ev_str .nil) rfl y4.fs fun vs s₅ e₅ F₅ A₅ => ⟨by rw [A₅.length]; decide, fun h' e hx => ?_⟩⟩) rfl rfl))
    exact (y4.ext e₅).refused t hst fr hA₁ (by show ScopeKind.function ≠ ScopeKind.module; decide) rfl hLl hx
  · obtain ⟨x, r, hb⟩ := List.exists_cons_of_ne_nil hb
    have hne : (((b.toList.take 1).toArray.size : Int) != 0) = true := by rw [hb]; rfl
    rw [hne, if_pos rfl]
    have hd' : firstD b = some (.int (x.toNat : Int)) := by unfold firstD; rw [hb]
    rw [hd']
    refine wpAny_execs_cons (wpAny_Return_some (Ev.use (c := ⟨prog, w, A.deeper _, callEnvC _ L 28⟩) (ev_item (i := 0) (r := .int (x.toNat : Int)) (ev_name H (by repeat (first | exact lk_here | refine lk_there (by decide +kernel) ?_))) ev_int (it_bytes (j := 0) rfl (by rw [hb]; rfl) (by rw [hb]; show 1 < _; decide))) y4.fs fun v s₅ e₅ F₅ A₅ => ?_))
    cases A₅
    exact (y4.ext e₅).told t hst fr fun g => .int _ _⟩

end Mine
/- part B37 -/
namespace Mine
open PySem PySem.W PySem.Calls PyProof.Rows
variable {b0 : Nat}
/-- a text with two numbers laid in -/
theorem bin_msg {c : Cx} {T : List Addr} {F' X : Str} {n k : Int} (hm : ∀ {b : Addr} {t t1 t2 : Tok}, Meets (Builtin.«str.__mod__» ⟨[.str F' t, .ref b], []⟩) (fun _ R s => IsTup s.heap b #[.int n t1, .int k t2] ∧ ∀ t' k', R (.ok (.ret (.str X t'))) { s with toks := k' })) :
    Bin b0 c T .Mod (.str F') (.tup [.int n, .int k]) (.str X) := ⟨fun s u v W hT hu hv => by
  cases hu with
  | str _ t =>
    obtain ⟨a, us, rfl, _, hl, r⟩ := hv.isTup vw_le
    obtain ⟨t1, t2, hus⟩ : ∃ t1 t2, us = #[.int n t1, .int k t2] := by
      obtain ⟨l⟩ := us
      cases r with
      | cons h1 h2 =>
        cases h1
        cases h2 with
        | cons h2 h3 => cases h2; cases h3; exact ⟨_, _, rfl⟩
    subst hus
    have ht : IsTup s.heap a #[.int n t1, .int k t2] := by
      obtain ⟨o, ho, hc, m, hd⟩ := hl
      exact ⟨o, ho, hc, m, hd⟩
    exact KPt.bin_left (T := "str") (U := "tuple") (op := .Mod) (by decide) (typeIs_str s F' t) hl.typeIs F.fills_str_mod KPt.fills_tuple F.slot_str_mod
      (call_meets F.slot_str_mod (typeIs_str s F' t) F.entry_str_mod (F.args_str_mod_2 _ _) hm ⟨ht, fun t' k => ⟨(fun e => nomatch e), .tok _ _, .str _ _⟩⟩)⟩

end Mine
/- part B38 -/
namespace Mine
open PySem PySem.W PySem.Calls PyProof.Rows
variable {b0 : Nat}
/-- a refusal under way in a frame -/
def Refused (b0 : Nat) (w : World) (sm l : Addr) (b' : Array UInt8) (env : Env) (outer : List Env) (s s' : Shared) (e : Addr) : Prop :=
  Same s s' ∧ Keep b0 l s.heap s'.heap ∧ TabOk s'.heap ∧ StreamAt w s'.heap sm l b' ∧ Frames b0 s'.heap (env :: outer) ∧ ∃ B t, Heap.FlyingW B (env :: outer) e (.type "ValueError") (.ref t) s'.heap ∧ TabOk B ∧ ∀ x o, x ≠ 149 → x ≠ l → s.heap.get? x = some o → (b0 ≤ x → ∀ es ep, o.data ≠ .dict es ep) → B.get? x = some o
/-- it goes on through the frame -/
theorem Refused.leaves {M : Model} {A : Around} {w : World} {sm l e : Addr} {b' b₀ : Array UInt8} {env : Env} {outer : List Env} {s s' : Shared} (r : Refused b0 w sm l b' env outer s s' e) (hA : A.frames = some (env :: outer)) (hf : env.frame = some env.locals) (t₀ : TabOk s.heap) (st₀ : StreamAt w s.heap sm l b₀) (fr₀ : Frames b0 s.heap outer) :
    wpAny M A (leaving env (.ref e)) (fun _ s'' => RdPost b0 w sm l b' outer none s (.error (.ref e)) s'') (fun e' s'' => RdPost b0 w sm l b' outer none s (.error e') s'') s' := by
  obtain ⟨hs, k, t, st, fr, B, tt, fly, tB, hB⟩ := r
  refine wpAny_leaves_onW hA hf fly fun h' fly' us => ?_
  have hll := st.list
  have k2 : ∀ x o, x ≠ 149 → x ≠ l → s.heap.get? x = some o → Up b0 h' x o := fun x o n nl e => by
    by_cases hd : b0 ≤ x ∧ ∃ es ep, o.data = .dict es ep
    · obtain ⟨kb, es, ep, d⟩ := hd
      rcases k x o n nl e with e' | ⟨_, _, _, sl, _, e'⟩
      · obtain ⟨sl', e''⟩ := us x o e' fun vs q => by (first | exact clash d q | exact none1 d q | obtain rfl := one1 d q | (rw [d] at q; cases q))
        exact .inr ⟨kb, es, ep, sl', d, e''⟩
      · obtain ⟨sl', e''⟩ := us x _ e' fun vs q => by simp only [d] at q; cases q
        exact .inr ⟨kb, es, ep, sl', d, e''⟩
    · exact .inl (fly'.1 x o (hB x o n nl e fun kb es ep d => hd ⟨kb, es, ep, d⟩))
  obtain ⟨tk, p⟩ : ∃ tk, PlainL h' l #[.bytes b' tk] := by
    obtain ⟨_, _, _, _, _, _, tk, _, _, _, _, _, _, _, _, o, n, e1, e2, e3, e4⟩ := st
    obtain ⟨sl, e'⟩ := us l o e1 fun vs q => by (first | exact clash e4 q | exact none1 e4 q | obtain rfl := one1 e4 q | (rw [e4] at q; cases q))
    exact ⟨tk, _, n, e', e2, e3, e4⟩
  exact ⟨hs.trans ⟨h', _, rfl⟩, k2, tB.keeps fly'.1, st₀.keep t₀ k2 p, frames_keep t₀ st₀.list k2 fr₀, B, e, tt, rfl, fly', tB, hB⟩
section
variable {prog : Program} {w : World} {A : Around} {S : St} {env : Env} {sm l : Addr} {b : Array UInt8} {outer : List Env} {s s' : Shared}
/-- a reader called in a frame -/
theorem Way.reader {k : Nat} {x : Str} {a : Addr} {oc : Value} {od : Option Addr} {osl : Array (Option Value)} {fd : FuncData} {b' b₀ : Array UInt8} {out : Option D} {y' : Str} {p q pos : Pos} (H : EnvOk env) (R : Room k A) (hA : A.frames = some (env :: outer)) (hk : env.scope.kind ≠ .module) (hf : env.frame = some env.locals) (hb : b0 ≤ env.locals)
    (y : Way b0 w S env sm l b outer s s') (t : TabOk s.heap) (st : StreamAt w s.heap sm l b₀) (fr : Frames b0 s.heap outer) (hown : OwnOff S l) (hlT : l ∈ S.T) (hl0 : S.h₀.get? l = none)
    (hkx : env.kindOf x = some .globalImplicit) (G : Gl b0 w x (.ref a)) (hK : (frag w.params).lookup a = some ⟨oc, od, .func fd, osl⟩) (rd : Rd b0 prog w k a b b' out) (hy : S.σ.lookup y' = some (D.val (.ref sm))) (hdb : (y' == ("__debug__" : Str)) = false) (hcd : (y' == ("__classdict__" : Str)) = false)
    {Q : Value → Shared → Prop} {E : Value → Shared → Prop} (hQ : ∀ d, out = some d → ∀ v s'', (∀ g, DAt g v d) → Way b0 w S env sm l b' outer s s'' → Q v s'') (hE : out = none → ∀ e s'', Refused b0 w sm l b' env outer s s'' e → FS b0 w env S s''.heap → E (.ref e) s'')
    (hst : starEach [.Name y' q] env = [(false, eval (.Name y' q) env)] := by rfl) :
    wpAny (model prog w) A (eval (.Call (.Name x p) [.Name y' q] [] pos) env) Q E s' := by
  refine Call_ (G.go _ _ _ _ _ _ _ H hkx y.fs.wd (callWith_def (o := ⟨oc, od, .func fd, osl⟩) rfl ?_ hst))
  refine wpAny_mono (EvAll.use (c := ⟨prog, w, A, env⟩) (E := NoE) (.cons (ev_name H hy hdb hcd) .nil) rfl y.fs fun vs s₂ e₂ F₂ A₂ => ?_) (fun _ _ z => z) fun _ _ z => z.elim
  have y2 := y.ext e₂
  cases A₂ with
  | cons h1 h2 =>
    cases h1; cases h2
    have st2 := y2.stream t st
    have hn2 : ∃ m, s₂.heap.Ns env.locals m := by obtain ⟨m, hn, _⟩ := F₂.frame; exact ⟨m, hn⟩
    obtain ⟨m, hn⟩ := hn2
    have fr2 : Frames b0 s₂.heap (env :: outer) := ⟨hk, ⟨_, m, hf, hb, hn⟩, frames_keep t st.list y2.keep fr⟩
    refine ⟨F₂.wd.obj hK, wpAny_call (codeAny_mono (rd.go A s₂ sm l (env :: outer) R hA (F₂.wdHide hl0 st2.list) F₂.tab st2 fr2 (Nat.le_trans hb (Nat.le_of_lt hn.lt))) fun res s₃ r => ?_)⟩
    obtain ⟨hs, kk, t3, st3, fr3, r⟩ := r
    have hex : ∃ o, s₃.heap.get? l = some o := by obtain ⟨o, _, _, e, _⟩ := st3.list; exact ⟨o, e⟩
    have F₃ := F₂.upl hown hlT hl0 st2.list kk t3 hex
    have hp : ∃ tk, PlainL s₃.heap l #[.bytes b' tk] := by obtain ⟨_, _, _, _, _, _, tk, _, _, _, _, _, _, _, _, e9⟩ := st3; exact ⟨tk, e9⟩
    cases out with
    | some d =>
      obtain ⟨v, rfl, hv⟩ := r
      exact hQ d rfl v s₃ hv ⟨y2.same.trans hs, F₃, y2.keep.trans kk, hp⟩
    | none =>
      obtain ⟨B, e, tt, rfl, fly, tB, hB⟩ := r
      refine hE rfl e s₃ ⟨y2.same.trans hs, y2.keep.trans kk, t3, st3, fr3, B, tt, fly, tB, fun x o n nl ex nd => ?_⟩ F₃
      rcases y2.keep x o n nl ex with e' | ⟨hb', es, ep, sl, d', e'⟩
      · exact hB x o n nl e' nd
      · exact absurd d' (nd hb' es ep)
end

end Mine
/- part B39 -/
namespace Mine
open PySem PySem.W PySem.Calls PyProof.Rows
variable {b0 : Nat}
def cutD (b : Array UInt8) : Option (Array UInt8) := match b.toList with | [] => none | x :: r => if x.toNat ≤ r.length then some (r.take x.toNat).toArray else none
def cutR (b : Array UInt8) : Array UInt8 := match b.toList with | [] => #[] | x :: r => (r.drop x.toNat).toArray
theorem rd_bytes1 {prog : Program} {w : World} {b : Array UInt8} (hz : b.size ≤ 50000) : Rd b0 prog w 3 42 b (cutR b) ((cutD b).map D.bytes) := ⟨fun A s sm l outer R hA W t hst fr hb0 => by
  refine rd_frame (k := 2) (hK := rfl) (by kernel_rfl) rfl rfl rfl rfl rfl rfl rfl rfl (fun L => rfl) (fun v => rfl) R hA W t hst fr hb0 fun L s₁ hL H R₁ hA₁ hs F st kp fr₁ => ?_
  have p1 : ∃ tk, PlainL s₁.heap l #[.bytes b tk] := by obtain ⟨_, _, _, _, _, _, tk, _, _, _, _, _, _, _, _, e9⟩ := st; exact ⟨tk, e9⟩
  have y1 : Way b0 w _ _ sm l b outer s s₁ := ⟨hs, F, kp, p1⟩
  have hLl : b0 ≤ L := by
    obtain ⟨_, ⟨L', m, e, k, _⟩, _⟩ := fr₁
    cases e; exact k
  have hlT : l ∈ [l] := List.mem_singleton.mpr rfl
  have hl0 : (hideAll s.heap [l]).get? l = none := hideAll_none _ hlT
  refine wpAny_execs_cons (wpAny_Assign_Name (y1.reader H R₁ hA₁ (by show ScopeKind.function ≠ ScopeKind.module; decide) rfl hLl t hst fr (fun _ _ _ q => by cases q) hlT hl0 rfl g_read_uint1 (hK := rfl) (rd_uint1 (by omega)) lk_here (by decide +kernel) (by decide +kernel) (fun d hd v s₂ hv y2 => ?_) (fun hd e s₂ r F₂ => ?_)) rfl)
  · obtain ⟨x, r, hb⟩ : ∃ x r, b.toList = x :: r := by
      unfold firstD at hd
      cases q : b.toList with
      | nil => (first | exact clash q hd | exact none1 q hd | obtain rfl := one1 q hd | (rw [q] at hd; cases hd))
      | cons x r => exact ⟨x, r, rfl⟩
    have hd2 : d = .int (x.toNat : Int) := by unfold firstD at hd; (first | exact clash hb hd | exact none1 hb hd | obtain rfl := one1 hb hd | (rw [hb] at hd; cases hd)); rfl
    subst hd2
    have hr : (b.toList.drop 1).toArray = r.toArray := by rw [hb]; rfl
    rw [hr] at y2
    have hrz : r.length ≤ 50000 := by
      have : b.toList.length = r.length + 1 := by rw [hb]; rfl
      simp at this; omega
    have hR : cutR b = (r.drop x.toNat).toArray := by unfold cutR; rw [hb]
    have hx256 := UInt8.toNat_lt x
    obtain ⟨t', rfl⟩ : ∃ t', v = .int (x.toNat : Int) t' := by cases hv (fun _ => none); exact ⟨_, rfl⟩
    refine y2.set H (x := "n") (fun _ _ _ q => by cases q) (.int _ t') rfl hL fun s₃ y3 => ?_
    refine wpAny_execs_cons (wpAny_Assert R₁.handled (Tst.use (c := ⟨prog, w, A.deeper _, callEnvC _ L 42⟩) ((tst_cmp (a := .int (x.toNat : Int)) (ev_name H (by repeat (first | exact lk_here | refine lk_there (by decide +kernel) ?_))) ev_int cmp_ge).cast (d' := true) (decide_eq_true (by omega))) y3.fs fun s₄ e₄ F₄ => ?_))
    rw [if_pos rfl]
    have y4 := y3.ext e₄
    refine wpAny_execs_cons (wpAny_Assign_Name (y4.read H (R₁.mono (by decide)) t hst (fun _ _ _ q => by cases q) hlT hl0 (by simp; omega) (n := x.toNat) (by repeat (first | exact lk_here | refine lk_there (by decide +kernel) ?_)) (ev_name H (by repeat (first | exact lk_here | refine lk_there (by decide +kernel) ?_))) fun v s₅ hv5 y5 => ?_) rfl)
    obtain ⟨t5, rfl⟩ := hv5
    refine y5.set H (x := "data") (fun _ _ _ q => by cases q) (.bytes _ t5) rfl hL fun s₆ y6 => ?_
    refine wpAny_execs_cons (wpAny_If (Tst.use (c := ⟨prog, w, A.deeper _, callEnvC _ L 42⟩) (tst_cmp (ev_bn H rfl g_len (.cons (ev_name H (by repeat (first | exact lk_here | refine lk_there (by decide +kernel) ?_))) .nil) (bc_len_bytes (by simp; omega))) (b := .int (x.toNat : Int)) (ev_name H (by repeat (first | exact lk_here | refine lk_there (by decide +kernel) ?_))) cmp_eq) y6.fs fun s₇ e₇ F₇ => ?_))
    have y7 := y6.ext e₇
    by_cases hx : x.toNat ≤ r.length
    · have ht : ((((r.take x.toNat).toArray.size : Nat) : Int) == (x.toNat : Int)) = true := by rw [beq_iff_eq]; simp; omega
      have e1 : (cutD b).map D.bytes = some (.bytes (r.take x.toNat).toArray) := by unfold cutD; rw [hb]; simp only [hx, if_true]; rfl
      rw [e1, hR]
      rw [show ((((r.toArray.toList.take x.toNat).toArray.size : Nat) : Int) == (x.toNat : Int)) = true from ht, if_pos rfl]
      refine wpAny_execs_cons (wpAny_Return_some (Ev.use (c := ⟨prog, w, A.deeper _, callEnvC _ L 42⟩) (d := .bytes (r.take x.toNat).toArray) (ev_name H (by repeat (first | exact lk_here | refine lk_there (by decide +kernel) ?_))) y7.fs fun v s₈ e₈ F₈ A₈ => ?_))
      cases A₈
      exact (y7.ext e₈).told t hst fr fun g => .bytes _ _
    · have ht : ((((r.take x.toNat).toArray.size : Nat) : Int) == (x.toNat : Int)) = false := by rw [beq_eq_false_iff_ne]; simp; omega
      have e1 : (cutD b).map D.bytes = none := by unfold cutD; rw [hb]; simp only [hx, if_false]; rfl
      rw [e1, hR]
      rw [show ((((r.toArray.toList.take x.toNat).toArray.size : Nat) : Int) == (x.toNat : Int)) = false from ht, if_neg (by decide)]
      refine wpAny_execs_nil (wpAny_execs_cons (Raise_madeB PySem.F.excCall_ValueError PySem.F.excRaise_ValueError R₁.handled (g_ValueError.go _ _ _ _ _ _ _ H rfl y7.fs.wd ⟨rfl, EvAll.use (c := ⟨prog, w, A.deeper _, callEnvC _ L 42⟩) (S := _)
        (.cons (ev_bin ev_str (ev_tup (.cons (d := .int (x.toNat : Int)) (ev_name H (by repeat (first | exact lk_here | refine lk_there (by decide +kernel) ?_))) (.cons (ev_bn H rfl g_len (.cons (d := .bytes (r.take x.toNat).toArray) (ev_name H (by repeat (first | exact lk_here | refine lk_there (by decide +kernel) ?_))) .nil) (bc_len_bytes (by simp; omega))) .nil))) (bin_msg (fun {b t t1 t2} => msg_bytes (by omega) (by omega) (by omega) (by simp; omega)))) .nil) rfl y7.fs fun vs s₈ e₈ F₈ A₈ => ⟨by rw [A₈.length]; show 1 ≤ sizeLine; decide, fun h' e hx => ?_⟩⟩) rfl rfl))
      exact (y7.ext e₈).refused t hst fr hA₁ (by show ScopeKind.function ≠ ScopeKind.module; decide) rfl hLl hx
  · have hb : b.toList = [] := by
      unfold firstD at hd
      cases q : b.toList with
      | nil => rfl
      | cons x r => (first | exact clash q hd | exact none1 q hd | obtain rfl := one1 q hd | (rw [q] at hd; cases hd))
    have e1 : (cutD b).map D.bytes = none := by unfold cutD; rw [hb]; rfl
    have e2 : cutR b = (b.toList.drop 1).toArray := by unfold cutR; rw [hb]; rfl
    rw [e1, e2]
    exact r.leaves hA₁ rfl t hst fr⟩

end Mine
/- part B40 -/
namespace Mine
open PySem PySem.W PySem.Calls PyProof.Rows
variable {b0 : Nat}
def textD (c : Array UInt8) : D := .str ⟨c.map (·.toNat)⟩
theorem rd_string1 {prog : Program} {w : World} {b : Array UInt8} (hz : b.size ≤ 50000) : Rd b0 prog w 3 35 b (cutR b) ((cutD b).map textD) := ⟨fun A s sm l outer R hA W t hst fr hb0 => by
  refine rd_frame (k := 2) (hK := rfl) (by kernel_rfl) rfl rfl rfl rfl rfl rfl rfl rfl (fun L => rfl) (fun v => rfl) R hA W t hst fr hb0 fun L s₁ hL H R₁ hA₁ hs F st kp fr₁ => ?_
  have p1 : ∃ tk, PlainL s₁.heap l #[.bytes b tk] := by obtain ⟨_, _, _, _, _, _, tk, _, _, _, _, _, _, _, _, e9⟩ := st; exact ⟨tk, e9⟩
  have y1 : Way b0 w _ _ sm l b outer s s₁ := ⟨hs, F, kp, p1⟩
  have hLl : b0 ≤ L := by
    obtain ⟨_, ⟨L', m, e, k, _⟩, _⟩ := fr₁
    cases e; exact k
  have hlT : l ∈ [l] := List.mem_singleton.mpr rfl
  have hl0 : (hideAll s.heap [l]).get? l = none := hideAll_none _ hlT
  refine wpAny_execs_cons (wpAny_Assign_Name (y1.reader H R₁ hA₁ (by show ScopeKind.function ≠ ScopeKind.module; decide) rfl hLl t hst fr (fun _ _ _ q => by cases q) hlT hl0 rfl g_read_uint1 (hK := rfl) (rd_uint1 (by omega)) lk_here (by decide +kernel) (by decide +kernel) (fun d hd v s₂ hv y2 => ?_) (fun hd e s₂ r F₂ => ?_)) rfl)
  · obtain ⟨x, r, hb⟩ : ∃ x r, b.toList = x :: r := by
      unfold firstD at hd
      cases q : b.toList with
      | nil => (first | exact clash q hd | exact none1 q hd | obtain rfl := one1 q hd | (rw [q] at hd; cases hd))
      | cons x r => exact ⟨x, r, rfl⟩
    have hd2 : d = .int (x.toNat : Int) := by unfold firstD at hd; (first | exact clash hb hd | exact none1 hb hd | obtain rfl := one1 hb hd | (rw [hb] at hd; cases hd)); rfl
    subst hd2
    have hr : (b.toList.drop 1).toArray = r.toArray := by rw [hb]; rfl
    rw [hr] at y2
    have hrz : r.length ≤ 50000 := by
      have : b.toList.length = r.length + 1 := by rw [hb]; rfl
      simp at this; omega
    have hR : cutR b = (r.drop x.toNat).toArray := by unfold cutR; rw [hb]
    have hx256 := UInt8.toNat_lt x
    obtain ⟨t', rfl⟩ : ∃ t', v = .int (x.toNat : Int) t' := by cases hv (fun _ => none); exact ⟨_, rfl⟩
    refine y2.set H (x := "n") (fun _ _ _ q => by cases q) (.int _ t') rfl hL fun s₃ y3 => ?_
    refine wpAny_execs_cons (wpAny_Assert R₁.handled (Tst.use (c := ⟨prog, w, A.deeper _, callEnvC _ L 35⟩) ((tst_cmp (a := .int (x.toNat : Int)) (ev_name H (by repeat (first | exact lk_here | refine lk_there (by decide +kernel) ?_))) ev_int cmp_ge).cast (d' := true) (decide_eq_true (by omega))) y3.fs fun s₄ e₄ F₄ => ?_))
    rw [if_pos rfl]
    have y4 := y3.ext e₄
    refine wpAny_execs_cons (wpAny_Assign_Name (y4.read H (R₁.mono (by decide)) t hst (fun _ _ _ q => by cases q) hlT hl0 (by simp; omega) (n := x.toNat) (by repeat (first | exact lk_here | refine lk_there (by decide +kernel) ?_)) (ev_name H (by repeat (first | exact lk_here | refine lk_there (by decide +kernel) ?_))) fun v s₅ hv5 y5 => ?_) rfl)
    obtain ⟨t5, rfl⟩ := hv5
    refine y5.set H (x := "data") (fun _ _ _ q => by cases q) (.bytes _ t5) rfl hL fun s₆ y6 => ?_
    refine wpAny_execs_cons (wpAny_If (Tst.use (c := ⟨prog, w, A.deeper _, callEnvC _ L 35⟩) (tst_cmp (ev_bn H rfl g_len (.cons (ev_name H (by repeat (first | exact lk_here | refine lk_there (by decide +kernel) ?_))) .nil) (bc_len_bytes (by simp; omega))) (b := .int (x.toNat : Int)) (ev_name H (by repeat (first | exact lk_here | refine lk_there (by decide +kernel) ?_))) cmp_eq) y6.fs fun s₇ e₇ F₇ => ?_))
    have y7 := y6.ext e₇
    by_cases hx : x.toNat ≤ r.length
    · have ht : ((((r.take x.toNat).toArray.size : Nat) : Int) == (x.toNat : Int)) = true := by rw [beq_iff_eq]; simp; omega
      have e1 : (cutD b).map textD = some (textD (r.take x.toNat).toArray) := by unfold cutD; rw [hb]; simp only [hx, if_true]; rfl
      rw [e1, hR]
      rw [show ((((r.toArray.toList.take x.toNat).toArray.size : Nat) : Int) == (x.toNat : Int)) = true from ht, if_pos rfl]
      refine wpAny_execs_cons (wpAny_Return_some (Ev.use (c := ⟨prog, w, A.deeper _, callEnvC _ L 35⟩) (d := textD (r.take x.toNat).toArray) (ev_meth (od := .bytes (r.take x.toNat).toArray) (ev_name H (by repeat (first | exact lk_here | refine lk_there (by decide +kernel) ?_))) mt_decode (.cons ev_str .nil) (bc_decode (by simp; omega))) y7.fs fun v s₈ e₈ F₈ A₈ => ?_))
      cases A₈
      exact (y7.ext e₈).told t hst fr fun g => .str _ _
    · have ht : ((((r.take x.toNat).toArray.size : Nat) : Int) == (x.toNat : Int)) = false := by rw [beq_eq_false_iff_ne]; simp; omega
      have e1 : (cutD b).map textD = none := by unfold cutD; rw [hb]; simp only [hx, if_false]; rfl
      rw [e1, hR]
      rw [show ((((r.toArray.toList.take x.toNat).toArray.size : Nat) : Int) == (x.toNat : Int)) = false from ht, if_neg (by decide)]
      refine wpAny_execs_nil (wpAny_execs_cons (Raise_madeB PySem.F.excCall_ValueError PySem.F.excRaise_ValueError R₁.handled (g_ValueError.go _ _ _ _ _ _ _ H rfl y7.fs.wd ⟨rfl, EvAll.use (c := ⟨prog, w, A.deeper _, callEnvC _ L 35⟩) (S := _)
        (.cons (ev_bin ev_str (ev_tup (.cons (d := .int (x.toNat : Int)) (ev_name H (by repeat (first | exact lk_here | refine lk_there (by decide +kernel) ?_))) (.cons (ev_bn H rfl g_len (.cons (d := .bytes (r.take x.toNat).toArray) (ev_name H (by repeat (first | exact lk_here | refine lk_there (by decide +kernel) ?_))) .nil) (bc_len_bytes (by simp; omega))) .nil))) (bin_msg (fun {b t t1 t2} => msg_string (by omega) (by omega) (by omega) (by simp; omega)))) .nil) rfl y7.fs fun vs s₈ e₈ F₈ A₈ => ⟨by rw [A₈.length]; show 1 ≤ sizeLine; decide, fun h' e hx => ?_⟩⟩) rfl rfl))
      exact (y7.ext e₈).refused t hst fr hA₁ (by show ScopeKind.function ≠ ScopeKind.module; decide) rfl hLl hx
  · have hb : b.toList = [] := by
      unfold firstD at hd
      cases q : b.toList with
      | nil => rfl
      | cons x r => (first | exact clash q hd | exact none1 q hd | obtain rfl := one1 q hd | (rw [q] at hd; cases hd))
    have e1 : (cutD b).map textD = none := by unfold cutD; rw [hb]; rfl
    have e2 : cutR b = (b.toList.drop 1).toArray := by unfold cutR; rw [hb]; rfl
    rw [e1, e2]
    exact r.leaves hA₁ rfl t hst fr⟩

end Mine
/- part B41 -/
namespace Mine
open PySem PySem.W PySem.Calls PyProof.Rows
variable {b0 : Nat}
mutual
theorem DAt.slots {g g' : Vw} (hs : ∀ a o, g a = some o → (∃ vs n, o.data = .seq vs n) → ∃ o', g' a = some o' ∧ o'.cls = o.cls ∧ o'.data = o.data) : ∀ {v : Value} {d : D}, DAt g v d → DAt g' v d
  | _, _, .none => .none
  | _, _, .bool b => .bool b
  | _, _, .int i t => .int i t
  | _, _, .str x t => .str x t
  | _, _, .bytes b t => .bytes b t
  | _, _, .list h c e r => let ⟨_, h', c', e'⟩ := hs _ _ h ⟨_, _, e⟩; .list h' (c'.trans c) (e'.trans e) (DAll.slots hs r)
  | _, _, .tup h c e r => let ⟨_, h', c', e'⟩ := hs _ _ h ⟨_, _, e⟩; .tup h' (c'.trans c) (e'.trans e) (DAll.slots hs r)
  | _, _, .val v => .val v
theorem DAll.slots {g g' : Vw} (hs : ∀ a o, g a = some o → (∃ vs n, o.data = .seq vs n) → ∃ o', g' a = some o' ∧ o'.cls = o.cls ∧ o'.data = o.data) : ∀ {vs : List Value} {ds : List D}, DAll g vs ds → DAll g' vs ds
  | _, _, .nil => .nil
  | _, _, .cons h r => .cons (DAt.slots hs h) (DAll.slots hs r)
end
/-- a frame whose objects were marked -/
theorem FS.slots {w : World} {env : Env} {S : St} {h h' : Heap} (F : FS b0 w env S h) (us : h.UpToSlots h') (t : TabOk h') (keep : ∀ b o, b ≠ 149 → S.h₀.get? b = some o → Up b0 h' b o) (hid : ∀ a ∈ S.T, ∃ o, h'.get? a = some o) (hc : env.cells = []) : FS b0 w env S h' := by
  have vs' : ∀ a o, vw S.T h a = some o → (∃ vs n, o.data = .seq vs n) → ∃ o', vw S.T h' a = some o' ∧ o'.cls = o.cls ∧ o'.data = o.data := fun a o e ⟨vs, n, d⟩ => by
    unfold vw at e ⊢
    split at e
    · cases e
    · rename_i hm
      rw [if_neg hm]
      obtain ⟨sl, e'⟩ := us a o e fun ws q => by (first | exact clash d q | exact none1 d q | obtain rfl := one1 d q | (rw [d] at q; cases q))
      exact ⟨_, e', rfl, rfl⟩
  obtain ⟨m, h1, h2, h3⟩ := F.frame
  have ns : h'.Ns env.locals m := us.ns h1
  have vr : ∀ y u, Var env h m y u → Var env h' m y u := fun y u V => by
    cases V with
    | loc a b => exact .loc a b
    | cell c a b e => (first | exact clash hc b | exact none1 hc b | obtain rfl := one1 hc b | (rw [hc] at b; cases b))
    | free c a b e => (first | exact clash hc b | exact none1 hc b | obtain rfl := one1 hc b | (rw [hc] at b; cases b))
  exact ⟨F.wd₀, t, keep, hid, F.sub, F.loc, (fun x c e => by (first | exact clash hc e | exact none1 hc e | obtain rfl := one1 hc e | (rw [hc] at e; cases e))), m, ns, (fun y d e => let ⟨v, V, B⟩ := h2 y d e; ⟨v, vr y v V, B.slots vs'⟩), fun y a ds e => by
    obtain ⟨V, a1, a2, vs, ⟨o, n, e', cc, d0, d⟩, a4⟩ := h3 y a ds e
    obtain ⟨sl, e2⟩ := us a o e' fun ws q => by (first | exact clash d q | exact none1 d q | obtain rfl := one1 d q | (rw [d] at q; cases q))
    exact ⟨vr y _ V, a1, a2, vs, ⟨_, n, e2, cc, d0, d⟩, a4.slots vs'⟩⟩
/-- a refusal caught by the handler -/
theorem caught {prog : Program} {w : World} {A : Around} {S : St} {env : Env} {sm l e : Addr} {b' : Array UInt8} {outer : List Env} {s s' : Shared} {np pos : Pos} {b₀ : Stmt} {suite : List Stmt} {rest : List ExceptHandler} {Q : Flow → Shared → Prop}
    (H : EnvOk env) (hA : A.frames = some (env :: outer)) (hf : env.frame = some env.locals) (hkx : env.kindOf "ValueError" = some .globalImplicit) (hc : env.cells = [])
    (r : Refused b0 w sm l b' env outer s s' e) (F : FS b0 w env S s'.heap) (hk0 : ∀ x o, x ≠ 149 → S.h₀.get? x = some o → Up b0 s.heap x o) (hl0 : S.h₀.get? l = none)
    (hT : ∀ x ∈ S.T, (∃ o, S.h₀.get? x = some o) ∨ ∃ o, s'.heap.get? x = some o ∧ ∀ vs, o.data ≠ .fields vs)
    (k : ∀ h', FS b0 w env S h' → wpAny (model prog w) (A.mark (some (.ref e))) (execs (b₀ :: suite) env) Q NoE { s' with heap := h' }) :
    wpAny (model prog w) A (noteFrame (.ref e) env) (fun _ s₂ => wpAny (model prog w) A (setFlight (.ref e) none) (fun _ s₃ => wpAny (model prog w) A (handleBy (.ref e) env (.ExceptHandler (some (.Name "ValueError" np)) none (b₀ :: suite) pos :: rest)) Q NoE s₃) NoE s₂) NoE s' := by
  obtain ⟨hs, kk, t, st, fr, B, tt, fly, tB, hB⟩ := r
  have go : ∀ h'', s'.heap.UpToSlots h'' → B.StaysIn h'' → FS b0 w env S h'' := fun h'' us sb => by
    have keep : ∀ x o, x ≠ 149 → S.h₀.get? x = some o → Up b0 h'' x o := fun x o n e => by
      have nl : x ≠ l := fun q => by (first | exact none2 q hl0 e | obtain rfl := one2 q hl0 e | (rw [q, hl0] at e; cases e))
      have u := hk0 x o n e
      by_cases hd : b0 ≤ x ∧ ∃ es ep, o.data = .dict es ep
      · obtain ⟨kb, es, ep, d⟩ := hd
        have u2 := u.next fun o' e' => kk x o' n nl e'
        rcases u2 with e' | ⟨_, _, _, sl, _, e'⟩
        · obtain ⟨sl', e''⟩ := us x o e' fun vs q => by (first | exact clash d q | exact none1 d q | obtain rfl := one1 d q | (rw [d] at q; cases q))
          exact .inr ⟨kb, es, ep, sl', d, e''⟩
        · obtain ⟨sl', e''⟩ := us x _ e' fun vs q => by simp only [d] at q; cases q
          exact .inr ⟨kb, es, ep, sl', d, e''⟩
      · have e' : s.heap.get? x = some o := by
          rcases u with e' | ⟨kb, es, ep, _, d, _⟩
          · exact e'
          · exact absurd ⟨kb, es, ep, d⟩ hd
        exact .inl (sb x o (hB x o n nl e' fun kb es ep d => hd ⟨kb, es, ep, d⟩))
    refine F.slots us (tB.keeps sb) keep (fun x hx => ?_) hc
    rcases hT x hx with ⟨o, e⟩ | ⟨o, e, nf⟩
    · by_cases q : x = 149
      · subst q
        obtain ⟨ps, e', _⟩ := tB.keeps sb
        exact ⟨_, e'⟩
      · exact (keep x o q e).there
    · obtain ⟨sl, e'⟩ := us x o e nf
      exact ⟨_, e'⟩
  refine wpAny_looks_onW hA hf fly fun h₄ hheld₄ hsm₄ => ?_
  refine wpAny_landsW hheld₄ fun h₅ fly₅ hsm₅ => ?_
  have u5 := hsm₄.trans hsm₅
  have F₅ := go h₅ u5 fly₅.1
  obtain ⟨ob, hob, hobc⟩ := fly₅.there
  refine wpAny_handleBy_builtin (X := "ValueError") (T := "ValueError") (b := true) (by rfl) (by rfl) (by rfl) (g_ValueError.go _ _ _ _ _ _ _ H hkx F₅.wd ⟨rfl, ⟨ob, hob, hobc⟩, ?_⟩)
  refine lands_againW fly₅ fun h₆ fly₆ us₆ => ?_
  exact wpAny_mono (k h₆ (go h₆ (u5.trans us₆) fly₆.1)) (fun _ _ z => z) fun _ _ z => z.elim

end Mine
/- part B42 -/
namespace Mine
open PySem PySem.W PySem.Calls PyProof.Rows
variable {b0 : Nat}
theorem hide_out {h : Heap} {as : List Addr} {x : Addr} {o : Obj} (e : (hideAll h as).get? x = some o) : x ∉ as := fun m => by (first | exact clash (hideAll_none _ m) e | exact none1 (hideAll_none _ m) e | obtain rfl := one1 (hideAll_none _ m) e | (rw [hideAll_none _ m] at e; cases e))
theorem Keep.hide {l : Addr} {h h' : Heap} {as : List Addr} (k : Keep b0 l h h') (ha : ∀ x ∈ as, h.get? x = none) : Keep b0 l h (hideAll h' as) := fun x o n nl e =>
  (k x o n nl e).exact fun o' e' => hideAll_get _ e' fun hm => by (first | exact clash (ha x hm) e | exact none1 (ha x hm) e | obtain rfl := one1 (ha x hm) e | (rw [ha x hm] at e; cases e))
theorem Keep.less {l : Addr} {h : Heap} {as bs : List Addr} (s : ∀ x ∈ bs, x ∈ as) : Keep b0 l (hideAll h as) (hideAll h bs) := fun x o n nl e =>
  .inl (hideAll_get _ (of_hideAll _ e) fun hm => hide_out e (s x hm))
theorem plain_hide {h : Heap} {as : List Addr} {l : Addr} {vs : Array Value} (p : PlainL h l vs) (hl : l ∉ as) : PlainL (hideAll h as) l vs := by
  obtain ⟨o, n, e, r⟩ := p
  exact ⟨o, n, hideAll_get _ e hl, r⟩
theorem plain_ofHide {h : Heap} {as : List Addr} {l : Addr} {vs : Array Value} (p : PlainL (hideAll h as) l vs) : PlainL h l vs := by
  obtain ⟨o, n, e, r⟩ := p
  exact ⟨o, n, of_hideAll _ e, r⟩
/-- the frame of _law_read between two turns -/
structure Lr (b0 : Nat) (w : World) (S : St) (env : Env) (sm l : Addr) (as : List Addr) (b : Array UInt8) (outer : List Env) (s₀ s : Shared) : Prop where
  same : Same s₀ s
  fs : FS b0 w env S s.heap
  st : StreamAt w (hideAll s.heap as) sm l b
  fr : Frames b0 (hideAll s.heap as) outer
/-- objects that may be hidden -/
def NoFields (h : Heap) (as : List Addr) : Prop := ∀ x ∈ as, ∀ o, h.get? x = some o → ∀ vs, o.data ≠ .fields vs
section
variable {prog : Program} {w : World} {A : Around} {S S' : St} {env : Env} {sm l : Addr} {as bs : List Addr} {b b' : Array UInt8} {outer : List Env} {s₀ s s' : Shared}
theorem StreamAt.plain {h : Heap} (x : StreamAt w h sm l b) : ∃ tk, PlainL h l #[.bytes b tk] := by
  obtain ⟨_, _, _, _, _, _, tk, _, _, _, _, _, _, _, _, e9⟩ := x
  exact ⟨tk, e9⟩
/-- a turn begins -/
theorem Lr.way (r : Lr b0 w S env sm l as b outer s₀ s) (t : TabOk (hideAll s.heap as)) (hs : ∀ x ∈ bs, x ∈ as) : Way b0 w S env sm l b outer { s with heap := hideAll s.heap bs } s ∧ StreamAt w (hideAll s.heap bs) sm l b ∧ Frames b0 (hideAll s.heap bs) outer := by
  obtain ⟨tk, p⟩ := r.st.plain
  have k : Keep b0 l (hideAll s.heap as) (hideAll s.heap bs) := Keep.less hs
  have hl : l ∉ as := by obtain ⟨o, n, e, _⟩ := p; exact hide_out e
  refine ⟨⟨⟨s.heap, s.toks, rfl⟩, r.fs, fun x o _ _ e => .inl (of_hideAll _ e), tk, plain_ofHide p⟩, ?_, ?_⟩
  · exact r.st.keep t k (plain_hide (plain_ofHide p) fun q => hl (hs l q))
  · exact frames_keep t r.st.list k r.fr
/-- the state goes on -/
theorem Lr.next' (r : Lr b0 w S env sm l as b outer s₀ s) (t : TabOk (hideAll s.heap as)) (hs : Same s s') (F : FS b0 w env S' s'.heap) (k : Keep b0 l (hideAll s.heap as) s'.heap) (p : ∃ tk, PlainL s'.heap l #[.bytes b' tk]) (hn : ∀ x ∈ bs, (hideAll s.heap as).get? x = none) : Lr b0 w S' env sm l bs b' outer s₀ s' := by
  obtain ⟨tk, p⟩ := p
  have hl : l ∉ bs := by obtain ⟨o, _, _, e, _⟩ := r.st.list; exact fun q => by (first | exact clash (hn l q) e | exact none1 (hn l q) e | obtain rfl := one1 (hn l q) e | (rw [hn l q] at e; cases e))
  have k2 : Keep b0 l (hideAll s.heap as) (hideAll s'.heap bs) := k.hide hn
  exact ⟨r.same.trans hs, F, r.st.keep t k2 (plain_hide p hl), frames_keep t r.st.list k2 r.fr⟩
theorem Lr.next (r : Lr b0 w S env sm l as b outer s₀ s) (t : TabOk (hideAll s.heap as)) (hs : Same s s') (F : FS b0 w env S' s'.heap) (k : Keep b0 l (hideAll s.heap as) s'.heap) (p : ∃ tk, PlainL s'.heap l #[.bytes b' tk]) : Lr b0 w S' env sm l as b' outer s₀ s' :=
  r.next' t hs F k p fun x hx => hideAll_none _ hx
theorem Lr.plain (r : Lr b0 w S env sm l as b outer s₀ s) : ∃ tk, PlainL s.heap l #[.bytes b tk] := by
  obtain ⟨tk, p⟩ := r.st.plain
  exact ⟨tk, plain_ofHide p⟩
theorem Lr.out (r : Lr b0 w S env sm l as b outer s₀ s) : l ∉ as := by
  obtain ⟨o, _, _, e, _⟩ := r.st.list
  exact hide_out e
/-- the state goes on in a heap that grew, save for hidden objects -/
theorem Lr.but (r : Lr b0 w S env sm l as b outer s₀ s) (t : TabOk (hideAll s.heap as)) (hs : Same s s') (F : FS b0 w env S' s'.heap) (k : ∀ x o, x ∉ as → s.heap.get? x = some o → s'.heap.get? x = some o) : Lr b0 w S' env sm l as b outer s₀ s' := by
  refine r.next t hs F (fun x o _ _ e => .inl (k x o (hide_out e) (of_hideAll _ e))) ?_
  obtain ⟨tk, o, n, e, q⟩ := r.plain
  exact ⟨tk, o, n, k l o r.out e, q⟩
theorem Lr.but' (r : Lr b0 w S env sm l as b outer s₀ s) (t : TabOk (hideAll s.heap as)) (hs : Same s s') (F : FS b0 w env S' s'.heap) (k : ∀ x o, x ∉ as → s.heap.get? x = some o → s'.heap.get? x = some o) (hn : ∀ x ∈ bs, (hideAll s.heap as).get? x = none) : Lr b0 w S' env sm l bs b outer s₀ s' := by
  refine r.next' t hs F (fun x o _ _ e => .inl (k x o (hide_out e) (of_hideAll _ e))) ?_ hn
  obtain ⟨tk, o, n, e, q⟩ := r.plain
  exact ⟨tk, o, n, k l o r.out e, q⟩
theorem Lr.ext (r : Lr b0 w S env sm l as b outer s₀ s) (t : TabOk (hideAll s.heap as)) (e : Ext b0 s s') : Lr b0 w S env sm l as b outer s₀ s' := by
  refine r.next t e.same (r.fs.ext e) (fun x o n _ e' => e.grow.1 x o n (of_hideAll _ e')) ?_
  obtain ⟨tk, p⟩ := r.plain
  exact ⟨tk, PlainL_grow r.fs.tab e.grow p⟩
/-- a turn ends -/
theorem Way.lr (y : Way b0 w S env sm l b outer { s with heap := hideAll s.heap bs } s') (r : Lr b0 w S' env sm l as b' outer s₀ s) (t : TabOk (hideAll s.heap as)) (hs : ∀ x ∈ bs, x ∈ as) : Lr b0 w S env sm l as b outer s₀ s' :=
  r.next t (Same.trans ⟨hideAll s.heap bs, s.toks, rfl⟩ y.same) y.fs (fun x o n nl e => y.keep x o n nl (hideAll_get _ (of_hideAll _ e) fun hm => hide_out e (hs x hm))) y.list
/-- the own list appended to -/
theorem Way.append (H : EnvOk env) {x : Str} {p ap cp pos : Pos} {e : Expr} {d : D} {a : Addr} {ds : List D} (y : Way b0 w S env sm l b outer s s') (hw : S.own = some (x, a, ds)) (ha : s.heap.get? a = none) (hal : l ≠ a) (he : Ev b0 ⟨prog, w, A, env⟩ S e d)
    {Q : Flow → Shared → Prop} {E : Value → Shared → Prop} (h : ∀ s'', Way b0 w { S with own := some (x, a, ds ++ [d]) } env sm l b outer s s'' → Q .next s'')
    (hz : ds.length ≤ 100000) (hline : (ap.endLine == cp.line) = true := by rfl) (hst : starEach [e] env = [(false, eval e env)] := by rfl)
    (hs : swapsWith (.Call (.Attribute (.Name x p) "append" ap) [e] [] cp) none pos.line env = pure false := by rfl) (hd : (x == ("__debug__" : Str)) = false := by decide +kernel) (hn : (x == ("__classdict__" : Str)) = false := by decide +kernel) :
    wpAny (model prog w) A (exec (.Expr (.Call (.Attribute (.Name x p) "append" ap) [e] [] cp) pos) env) Q E s' :=
  wpAny_Expr_any (wpAny_Call_append rfl (by rw [hst]; rfl) hline (by rw [hst]; rfl) (by
    obtain ⟨m, h1, h2, h3⟩ := y.fs.frame
    obtain ⟨V, a1, a2, vs, a3, a4⟩ := h3 x a ds hw
    refine ev_var H h1 V ⟨a, vs, rfl, a3, Ev.use (c := ⟨prog, w, A, env⟩) he y.fs fun v s₁ e₁ F₁ A₁ => ?_⟩ hd hn
    have y1 := y.ext e₁
    obtain ⟨m', k1, k2, k3⟩ := F₁.frame
    obtain ⟨V', _, _, vs', b3, b4⟩ := k3 x a ds hw
    have hl : vs'.size = ds.length := by have := b4.length; simpa using this
    refine list_append_plainL b3 (fun h' hp' hs' => h _ ?_) (by rw [hl]; exact Nat.le_trans hz (by decide))
    refine ⟨y1.same.trans ⟨h', _, rfl⟩, F₁.ownSet hw hp' hs' (by simpa using b4.append (.cons A₁ .nil)), fun b o n nl e => (y1.keep b o n nl e).exact fun o' e' => hs'.extBut b o' (fun q => by (first | exact none2 q ha e | obtain rfl := one2 q ha e | (rw [q, ha] at e; cases e))) e', ?_⟩
    obtain ⟨tk, o, n, e, r⟩ := y1.list
    exact ⟨tk, o, n, hs'.extBut l o hal e, r⟩)) (not_interactive H) hs
end
/-- the own list is changed no more -/
theorem FS.freeze {w : World} {env : Env} {S : St} {h : Heap} {x : Str} {a : Addr} {ds : List D} {T : List Addr} (F : FS b0 w env S h) (hw : S.own = some (x, a, ds)) (hT : S.T = a :: T) (hsub : ∀ b ∈ S.T₀, b ∈ T) (haT : a ∉ T) : FS b0 w env { S with T := T, own := none, σ := (x, .list ds) :: S.σ } h := by
  obtain ⟨m, h1, h2, h3⟩ := F.frame
  obtain ⟨V, a1, a2, vs, a3, a4⟩ := h3 x a ds hw
  have less : Sub (vw S.T h) (vw T h) := vw_less fun b hb => by rw [hT]; exact List.mem_cons_of_mem _ hb
  refine ⟨F.wd₀, F.tab, F.keep, fun b hb => F.hid b (by rw [hT]; exact List.mem_cons_of_mem _ hb), hsub, F.loc, F.cells, m, h1, fun y d hy => ?_, fun y b es hy => by cases hy⟩
  change ((x, D.list ds) :: S.σ).lookup y = some d at hy
  rw [List.lookup_cons] at hy
  cases hyx : y == x with
  | true =>
    (first | exact clash hyx hy | exact none1 hyx hy | obtain rfl := one1 hyx hy | (rw [hyx] at hy; cases hy))
    obtain rfl : y = x := by simpa using hyx
    exact ⟨_, V, .ofList a3.isList haT (a4.mono less)⟩
  | false =>
    rw [hyx] at hy
    obtain ⟨u, V', B⟩ := h2 y d hy
    exact ⟨u, V', B.mono less⟩

end Mine
/- part L3 -/
namespace Mine
open PySem PySem.W PySem.Calls PyProof.Rows
variable {b0 : Nat}
/-- what the readers tell of a tape's rest: an order, or refusal -/
def readOne (b : Array UInt8) : Option Ord × Array UInt8 :=
  match b.toList with
  | [] => (none, #[])
  | k :: r =>
    if k = 0 then ((cutD r.toArray).map fun c => .txt ⟨c.map (·.toNat)⟩, cutR r.toArray)
    else if k = 1 then ((cutD r.toArray).map .oct, cutR r.toArray)
    else if k = 2 then (match r with | [] => (none, #[]) | n :: r => (some (.num n.toNat), r.toArray))
    else (some (.op k.toNat), r.toArray)
def readMany : Nat → Array UInt8 → List Ord × Bool
  | 0, _ => ([], false)
  | n + 1, b => match readOne b with
    | (none, _) => ([], true)
    | (some o, r) => let (os, f) := readMany n r; (o :: os, f)
/-- all that _law_read tells -/
def readAll (b : Array UInt8) : List Ord × Bool := match b.toList with
  | [] => ([], true)
  | n :: r => readMany n.toNat r.toArray
def cellsB (o : Ord) : List UInt8 := (cells o).map (·.toUInt8)
theorem u8 {n : Nat} (h : n < 256) : (n.toUInt8).toNat = n := by
  show n % 256 = n
  omega
theorem map_u8 : ∀ (l : List Nat), (∀ c ∈ l, c < 256) → (l.map (·.toUInt8)).map (·.toNat) = l
  | [], _ => rfl
  | c :: l, h => by rw [List.map_cons, List.map_cons, u8 (h c (by simp)), map_u8 l fun x hx => h x (by simp [hx])]
theorem cutD_whole (n : Nat) (l r : List UInt8) (h : n < 256) (hl : l.length = n) : cutD (n.toUInt8 :: (l ++ r)).toArray = some l.toArray ∧ cutR (n.toUInt8 :: (l ++ r)).toArray = r.toArray := by
  unfold cutD cutR
  simp only [u8 h]
  constructor
  · rw [if_pos (by simp; omega), List.take_append_of_le_length (by omega), List.take_of_length_le (by omega)]
  · rw [List.drop_append_of_le_length (by omega), List.drop_of_length_le (by omega)]; rfl
theorem readOne_whole (o : Ord) (h : o.ok) (r : List UInt8) : readOne (cellsB o ++ r).toArray = (some o, r.toArray) := by
  cases o with
  | num n =>
    have h' : n < 256 := h
    simp [readOne, cellsB, cells, u8 h']
  | op k => rcases h with rfl | rfl | rfl <;> rfl
  | oct b =>
    have h' : b.size ≤ 255 := h
    obtain ⟨h1, h2⟩ := cutD_whole b.size b.toList r (by omega) (by simp)
    have hm : (b.toList.map (·.toNat)).map (·.toUInt8) = b.toList := by
      rw [List.map_map]; exact List.map_id'' (fun x => by simp) _
    have e : cellsB (.oct b) ++ r = 1 :: b.size.toUInt8 :: (b.toList ++ r) := by
      unfold cellsB cells; rw [List.map_cons, List.map_cons, hm]; rfl
    rw [e]
    unfold readOne
    simp only [show ¬ ((1 : UInt8) = 0) by decide, if_false, if_true, h1, h2]
    simp
  | txt x =>
    obtain ⟨hx, hc⟩ := h
    obtain ⟨h1, h2⟩ := cutD_whole x.length (x.cps.toList.map (·.toUInt8)) r (by omega) (by simp [Str.length])
    have e : cellsB (.txt x) ++ r = 0 :: x.length.toUInt8 :: (x.cps.toList.map (·.toUInt8) ++ r) := rfl
    rw [e]
    unfold readOne
    simp only [if_true, h1, h2]
    have : (⟨((x.cps.toList.map (·.toUInt8)).toArray).map (·.toNat)⟩ : Str) = x := congrArg Str.mk (by
      apply Array.ext'
      rw [Array.toList_map]; exact map_u8 _ hc)
    simp only [Option.map_some, this]
theorem cutD_cut (n : Nat) (l : List UInt8) (h : n < 256) (hl : l.length = n) (k : Nat) (hk : k < n + 1) : cutD ((n.toUInt8 :: l).take k).toArray = none := by
  cases k with
  | zero => rfl
  | succ k =>
    unfold cutD
    simp only [List.take_succ_cons, u8 h]
    rw [if_neg (by rw [List.length_take]; omega)]
/-- an order cut short is refused -/
theorem readOne_cut (o : Ord) (h : o.ok) (k : Nat) (hk : k < (cellsB o).length) : (readOne ((cellsB o).take k).toArray).1 = none := by
  cases k with
  | zero => rfl
  | succ k =>
  cases o with
  | op n => simp [cellsB, cells] at hk
  | num n =>
    have : k = 0 := by simp [cellsB, cells] at hk; omega
    subst this
    rfl
  | oct b =>
    have h' : b.size ≤ 255 := h
    have hm : (b.toList.map (·.toNat)).map (·.toUInt8) = b.toList := by
      rw [List.map_map]; exact List.map_id'' (fun x => by simp) _
    have e : cellsB (.oct b) = 1 :: b.size.toUInt8 :: b.toList := by
      unfold cellsB cells; rw [List.map_cons, List.map_cons, hm]; rfl
    rw [e] at hk ⊢
    have := cutD_cut b.size b.toList (by omega) (by simp) k (by simp at hk; omega)
    rw [List.take_succ_cons]
    unfold readOne
    simp only [show ¬ ((1 : UInt8) = 0) by decide, if_false, if_true, this]
    rfl
  | txt x =>
    obtain ⟨hx, hc⟩ := h
    have e : cellsB (.txt x) = 0 :: x.length.toUInt8 :: x.cps.toList.map (·.toUInt8) := rfl
    rw [e] at hk ⊢
    have := cutD_cut x.length (x.cps.toList.map (·.toUInt8)) (by omega) (by simp [Str.length]) k (by simp [Str.length] at hk ⊢; omega)
    rw [List.take_succ_cons]
    unfold readOne
    simp only [if_true, this]
    rfl
/-- how many orders are whole in the first k octets -/
def wholes : List Ord → Nat → Nat
  | [], _ => 0
  | o :: os, k => if (cellsB o).length ≤ k then wholes os (k - (cellsB o).length) + 1 else 0
/-- many orders, cut somewhere -/
theorem readMany_cut : ∀ (os : List Ord), (∀ o ∈ os, o.ok) → ∀ k, readMany os.length ((os.map cellsB).flatten.take k).toArray = (os.take (wholes os k), decide (k < (os.map cellsB).flatten.length))
  | [], _, k => by simp [readMany, wholes]
  | o :: os, h, k => by
    have ho := h o (by simp)
    have ih := readMany_cut os (fun x hx => h x (by simp [hx])) (k - (cellsB o).length)
    rw [List.map_cons, List.flatten_cons, List.length_cons]
    unfold wholes
    by_cases hk : (cellsB o).length ≤ k
    · have ht : (cellsB o ++ (os.map cellsB).flatten).take k = cellsB o ++ (os.map cellsB).flatten.take (k - (cellsB o).length) := by
        rw [List.take_append, List.take_of_length_le hk]
      rw [ht, if_pos hk]
      unfold readMany
      rw [readOne_whole o ho]
      simp only [ih, List.take_succ_cons, List.length_append]
      congr 1
      rw [decide_eq_decide]; omega
    · have ht : (cellsB o ++ (os.map cellsB).flatten).take k = (cellsB o).take k := List.take_append_of_le_length (by omega)
      rw [ht, if_neg hk]
      have := readOne_cut o ho k (by omega)
      unfold readMany
      cases hr : readOne ((cellsB o).take k).toArray with
      | mk a b =>
        rw [hr] at this
        simp only at this
        subst this
        simp only [List.take_zero]
        congr 1
        symm
        rw [decide_eq_true_eq, List.length_append]; omega

end Mine
/- part B43 -/
namespace Mine
open PySem PySem.W PySem.Calls PyProof.Rows
variable {b0 : Nat}
/-- what _law_read gives back -/
def readD (b : Array UInt8) : D := .tup [.list ((readAll b).1.map Ord.d), .bool (readAll b).2]
/-- the frame's state: so many orders are read -/
abbrev lrS (h₀ : Heap) (T : List Addr) (sm l a : Addr) (os : List Ord) : St := { h₀ := h₀, T₀ := T, T := a :: l :: T, σ := [("stream", .val (.ref sm))], own := some ("orders", a, os.map Ord.d) }
/-- one order's turn -/
structure Told1 (k : Nat) (b : Array UInt8) (out : Option D) (b' : Array UInt8) : Prop where
  ok : ∀ d, out = some d → ∃ o : Ord, o.d = .tup [.int (k : Int), d] ∧ readOne b = (some o, b')
  no : out = none → (readOne b).1 = none
theorem told0 {b : Array UInt8} {r : List UInt8} (hb : b.toList = 0 :: r) : Told1 0 b ((cutD r.toArray).map textD) (cutR r.toArray) := by
  constructor
  · intro d hd
    cases hc : cutD r.toArray with
    | none => (first | exact clash hc hd | exact none1 hc hd | obtain rfl := one1 hc hd | (rw [hc] at hd; cases hd))
    | some c =>
      (first | exact clash hc hd | exact none1 hc hd | obtain rfl := one1 hc hd | (rw [hc] at hd; cases hd))
      refine ⟨.txt ⟨c.map (·.toNat)⟩, rfl, ?_⟩
      unfold readOne; rw [hb]; simp [hc]
  · intro hd
    cases hc : cutD r.toArray with
    | none => unfold readOne; rw [hb]; simp [hc]
    | some c => (first | exact clash hc hd | exact none1 hc hd | obtain rfl := one1 hc hd | (rw [hc] at hd; cases hd))
theorem told1 {b : Array UInt8} {r : List UInt8} (hb : b.toList = 1 :: r) : Told1 1 b ((cutD r.toArray).map D.bytes) (cutR r.toArray) := by
  constructor
  · intro d hd
    cases hc : cutD r.toArray with
    | none => (first | exact clash hc hd | exact none1 hc hd | obtain rfl := one1 hc hd | (rw [hc] at hd; cases hd))
    | some c =>
      (first | exact clash hc hd | exact none1 hc hd | obtain rfl := one1 hc hd | (rw [hc] at hd; cases hd))
      refine ⟨.oct c, rfl, ?_⟩
      unfold readOne; rw [hb]; simp [hc]
  · intro hd
    cases hc : cutD r.toArray with
    | none => unfold readOne; rw [hb]; simp [hc]
    | some c => (first | exact clash hc hd | exact none1 hc hd | obtain rfl := one1 hc hd | (rw [hc] at hd; cases hd))
theorem told2 {b : Array UInt8} {r : List UInt8} (hb : b.toList = 2 :: r) : Told1 2 b (firstD r.toArray) (r.drop 1).toArray := by
  constructor
  · intro d hd
    cases r with
    | nil => cases hd
    | cons n r =>
      cases hd
      refine ⟨.num n.toNat, rfl, ?_⟩
      unfold readOne; rw [hb]; rfl
  · intro hd
    cases r with
    | nil => unfold readOne; rw [hb]; rfl
    | cons n r => cases hd
theorem told3 {b : Array UInt8} {r : List UInt8} {k : UInt8} (hb : b.toList = k :: r) (h0 : k ≠ 0) (h1 : k ≠ 1) (h2 : k ≠ 2) : Told1 k.toNat b (some .none) r.toArray := by
  constructor
  · intro d hd
    cases hd
    refine ⟨.op k.toNat, rfl, ?_⟩
    unfold readOne; rw [hb]; simp [h0, h1, h2]
  · intro hd; cases hd
theorem readOne_nil {b : Array UInt8} (hb : b.toList = []) : (readOne b).1 = none := by unfold readOne; rw [hb]
theorem readMany_no {n : Nat} {b : Array UInt8} (h : (readOne b).1 = none) : readMany (n + 1) b = ([], true) := by
  unfold readMany
  cases hr : readOne b with
  | mk x y => rw [hr] at h; simp only at h; subst h; rfl
theorem readMany_yes {n : Nat} {b b' : Array UInt8} {o : Ord} (h : readOne b = (some o, b')) : readMany (n + 1) b = (o :: (readMany n b').1, (readMany n b').2) := by
  conv => lhs; unfold readMany
  rw [h]
theorem cutR_size (b : Array UInt8) : (cutR b).size ≤ b.size := by
  unfold cutR
  split
  · simp
  · rename_i x r h
    have := congrArg List.length h
    simp at this ⊢; omega
section
variable {prog : Program} {w : World} {A : Around} {S : St} {env : Env} {sm l : Addr} {b₀ : Array UInt8} {outer : List Env} {s s' : Shared}
/-- the thing is read -/
theorem Way.thing {k : UInt8} {r : List UInt8} {b : Array UInt8} {p1 p2 p3 p4 p5 p6 p7 p8 p9 q1 q3 q4 q5 q6 q7 q8 q9 q10 q11 q12 q13 q14 : Pos} {i1 i2 i3 i4 : Nat} (hb : b.toList = k :: r) (H : EnvOk env) (R : Room 3 A) (hA : A.frames = some (env :: outer)) (hk : env.scope.kind ≠ .module) (hf : env.frame = some env.locals) (hbl : b0 ≤ env.locals)
    (y : Way b0 w S env sm l r.toArray outer s s') (t : TabOk s.heap) (st : StreamAt w s.heap sm l b₀) (fr : Frames b0 s.heap outer) (hown : OwnOff S l) (hlT : l ∈ S.T) (hl0 : S.h₀.get? l = none) (hz : r.length ≤ 50000)
    (h1 : env.kindOf "read_uint1" = some .globalImplicit) (h2 : env.kindOf "read_string1" = some .globalImplicit) (h3 : env.kindOf "read_bytes1" = some .globalImplicit)
    (hy : S.σ.lookup (Str.ofString "stream") = some (D.val (.ref sm))) (hkd : S.σ.lookup (Str.ofString "kind") = some (.int (k.toNat : Int)))
    {Q : Value → Shared → Prop} {E : Value → Shared → Prop}
    (hQ : ∀ o d b' v s'', readOne b = (some o, b') → o.d = .tup [.int (k.toNat : Int), d] → b'.size ≤ r.length → (∀ g, DAt g v d) → Way b0 w S env sm l b' outer s s'' → Q v s'')
    (hE : (readOne b).1 = none → ∀ e b' s'', Refused b0 w sm l b' env outer s s'' e → FS b0 w env S s''.heap → E (.ref e) s'') :
    wpAny (model prog w) A (eval (.IfExp (.Compare (.Name "kind" p1) [.Eq] [.Constant (.int 0) i1 p3] p4) (.Call (.Name "read_string1" p5) [.Name "stream" p6] [] p7)
      (.IfExp (.Compare (.Name "kind" q1) [.Eq] [.Constant (.int 1) i2 q3] q4) (.Call (.Name "read_bytes1" q5) [.Name "stream" q6] [] q7)
        (.IfExp (.Compare (.Name "kind" p8) [.Eq] [.Constant (.int 2) i3 q8] q9) (.Call (.Name "read_uint1" q10) [.Name "stream" q11] [] q12) (.Constant .none i4 q13) q14) p9) p2) env) Q E s' := by
  have hk256 := UInt8.toNat_lt k
  have eqk : ∀ n : Nat, n < 256 → ((((k.toNat : Int)) == (n : Int)) = decide (k = n.toUInt8)) := fun n hn => by
    rw [Bool.eq_iff_iff]; simp only [beq_iff_eq, decide_eq_true_eq]
    constructor
    · intro q
      have : k.toNat = n := by omega
      rw [← this]; simp
    · intro q; rw [q, u8 hn]
  have tst : ∀ (n : Nat) (i : Nat) (x1 x2 x3 : Pos), Tst b0 ⟨prog, w, A, env⟩ S (.Compare (.Name "kind" x1) [.Eq] [.Constant (.int (n : Int)) i x2] x3) (((k.toNat : Int)) == (n : Int)) := fun n i x1 x2 x3 =>
    tst_cmp (a := .int (k.toNat : Int)) (ev_name H hkd) ev_int cmp_eq
  refine wpAny_IfExp (Tst.use (tst 0 _ _ _ _) y.fs fun s₁ e₁ F₁ => ?_)
  have y1 := y.ext e₁
  rw [eqk 0 (by decide)]
  by_cases k0 : k = 0
  · subst k0
    rw [if_pos (by decide)]
    have T := told0 hb
    refine y1.reader H R hA hk hf hbl t st fr hown hlT hl0 h2 g_read_string1 (hK := rfl) (rd_string1 (by simpa using hz)) hy (by decide +kernel) (by decide +kernel) (fun d hd v s'' hv y2 => ?_) (fun hd e s'' rf F => hE (T.no hd) e _ s'' rf F)
    obtain ⟨o, o1, o2⟩ := T.ok d hd
    refine hQ o d _ v s'' o2 o1 ?_ hv y2
    have := cutR_size r.toArray; simpa using this
  · have z : ¬ (decide (k = (0 : Nat).toUInt8) = true) := by simpa using k0
    rw [if_neg z]
    refine wpAny_IfExp (Tst.use (tst 1 _ _ _ _) y1.fs fun s₂ e₂ F₂ => ?_)
    have y2 := y1.ext e₂
    rw [eqk 1 (by decide)]
    by_cases k1 : k = 1
    · subst k1
      rw [if_pos (by decide)]
      have T := told1 hb
      refine y2.reader H R hA hk hf hbl t st fr hown hlT hl0 h3 g_read_bytes1 (hK := rfl) (rd_bytes1 (by simpa using hz)) hy (by decide +kernel) (by decide +kernel) (fun d hd v s'' hv y2 => ?_) (fun hd e s'' rf F => hE (T.no hd) e _ s'' rf F)
      obtain ⟨o, o1, o2⟩ := T.ok d hd
      refine hQ o d _ v s'' o2 o1 ?_ hv y2
      have := cutR_size r.toArray; simpa using this
    · have z : ¬ (decide (k = (1 : Nat).toUInt8) = true) := by simpa using k1
      rw [if_neg z]
      refine wpAny_IfExp (Tst.use (tst 2 _ _ _ _) y2.fs fun s₃ e₃ F₃ => ?_)
      have y3 := y2.ext e₃
      rw [eqk 2 (by decide)]
      by_cases k2 : k = 2
      · subst k2
        rw [if_pos (by decide)]
        have T := told2 hb
        refine y3.reader H (R.mono (by decide)) hA hk hf hbl t st fr hown hlT hl0 h1 g_read_uint1 (hK := rfl) (rd_uint1 (b := r.toArray) (by simp; omega)) hy (by decide +kernel) (by decide +kernel) (fun d hd v s'' hv y2 => ?_) (fun hd e s'' rf F => hE (T.no hd) e _ s'' rf F)
        obtain ⟨o, o1, o2⟩ := T.ok d hd
        refine hQ o d _ v s'' o2 o1 ?_ hv y2
        simp
      · have z : ¬ (decide (k = (2 : Nat).toUInt8) = true) := by simpa using k2
        rw [if_neg z]
        have T := told3 hb k0 k1 k2
        obtain ⟨o, o1, o2⟩ := T.ok .none rfl
        exact wpAny_Constant_none (hQ o .none _ _ _ o2 o1 (by simp) (fun g => .none) y3)
end

end Mine
/- part B44 -/
namespace Mine
open PySem PySem.W PySem.Calls PyProof.Rows
variable {b0 : Nat}
theorem FS.tabL {w : World} {env : Env} {S : St} {h : Heap} (F : FS b0 w env S h) : TabOk (hideAll h [env.locals]) := F.tab.hide fun x hx o e vs q => by
  obtain ⟨m, ⟨oL, es, ep, eL, d, _⟩, _⟩ := F.frame
  (first | exact none2 (List.mem_singleton.mp hx) eL e | obtain rfl := one2 (List.mem_singleton.mp hx) eL e | (rw [List.mem_singleton.mp hx, eL] at e; cases e)); (first | exact clash d q | exact none1 d q | obtain rfl := one1 d q | (rw [d] at q; cases q))
theorem FS.tabLa {w : World} {env : Env} {S : St} {h : Heap} {x : Str} {a : Addr} {ds : List D} (F : FS b0 w env S h) (hw : S.own = some (x, a, ds)) : TabOk (hideAll h [env.locals, a]) := F.tab.hide fun y hy o e vs q => by
  obtain ⟨m, ⟨oL, es, ep, eL, d, _⟩, _, h3⟩ := F.frame
  obtain ⟨_, _, _, us, ⟨oa, n, ea, _, _, da⟩, _⟩ := h3 _ _ _ hw
  rcases List.mem_cons.mp hy with rfl | hy
  · (first | exact clash eL e | exact none1 eL e | obtain rfl := one1 eL e | (rw [eL] at e; cases e)); (first | exact clash d q | exact none1 d q | obtain rfl := one1 d q | (rw [d] at q; cases q))
  · (first | exact none2 (List.mem_singleton.mp hy) ea e | obtain rfl := one2 (List.mem_singleton.mp hy) ea e | (rw [List.mem_singleton.mp hy, ea] at e; cases e)); (first | exact clash da q | exact none1 da q | obtain rfl := one1 da q | (rw [da] at q; cases q))
theorem FS.tabLaI {w : World} {env : Env} {S : St} {h : Heap} {x : Str} {a I : Addr} {ds : List D} (F : FS b0 w env S h) (hw : S.own = some (x, a, ds)) (hI : Iterish h I) (hn : I ≠ 149) (h1 : I ≠ env.locals) (h2 : I ≠ a) : TabOk (hideAll h [env.locals, a, I]) := by
  obtain ⟨o, vs, e, d, q⟩ := hI
  have hm : I ∉ [env.locals, a] := fun m => by
    rcases List.mem_cons.mp m with m | m
    · exact h1 m
    · exact h2 (List.mem_singleton.mp m)
  refine (F.tabLa hw).hideI ⟨o, vs, hideAll_get _ e hm, d, q⟩ hn fun y ob hy ey => hideAll_get _ (of_hideAll _ ey) fun m => ?_
  have := hide_out ey
  simp at this m
  rcases m with m | m | m
  · exact this.1 m
  · exact this.2 m
  · exact hy m
theorem hid_of {w : World} {env : Env} {S : St} {h : Heap} {x : Str} {a l : Addr} {ds : List D} {T : List Addr} (F : FS b0 w env S h) (hw : S.own = some (x, a, ds)) (hT : S.T = a :: l :: T) (hh : ∀ x ∈ T, ∃ o, S.h₀.get? x = some o) (hll : ∃ o vs n, h.get? l = some o ∧ o.data = .seq vs n) :
    ∀ y ∈ S.T, (∃ o, S.h₀.get? y = some o) ∨ ∃ o, h.get? y = some o ∧ ∀ vs, o.data ≠ .fields vs := fun y hy => by
  rw [hT] at hy
  rcases List.mem_cons.mp hy with rfl | hy
  · obtain ⟨m, _, _, h3⟩ := F.frame
    obtain ⟨_, _, _, us, ⟨oa, n, ea, _, _, da⟩, _⟩ := h3 _ _ _ hw
    exact .inr ⟨oa, ea, fun vs q => by (first | exact clash da q | exact none1 da q | obtain rfl := one1 da q | (rw [da] at q; cases q))⟩
  · rcases List.mem_cons.mp hy with rfl | hy
    · obtain ⟨o, vs, n, e, d⟩ := hll
      exact .inr ⟨o, e, fun vs q => by (first | exact clash d q | exact none1 d q | obtain rfl := one1 d q | (rw [d] at q; cases q))⟩
    · exact .inl (hh y hy)
theorem lr_end {prog : Program} {w : World} {A : Around} {env : Env} {S : St} {l a : Addr} {T : List Addr} {os : List Ord} {flag : Bool} {s₀ s' : Shared} {i k : Nat} {p1 p2 p3 p4 : Pos} {rest : List Stmt} (H : EnvOk env) (F : FS b0 w env S s'.heap) (hw : S.own = some (("orders" : Str), a, os.map Ord.d)) (hT : S.T = a :: l :: T) (hT0 : S.T₀ = T) (ha : a ∉ l :: T) (hs : Same s₀ s') (hh : S.h₀ = s₀.heap) :
    wpAny (model prog w) A (execs (.Return (some (.Tuple [.Name "orders" p1, .Constant (.bool flag) i p2] k p3)) p4 :: rest) env) (fun f s'' => ∃ v, f = .ret v ∧ Ext b0 s₀ s'' ∧ DAt (vw T s''.heap) v (.tup [.list (os.map Ord.d), .bool flag])) NoE s' := by
  have F₁ := F.freeze hw hT (by rw [hT0]; exact fun x hx => List.mem_cons_of_mem _ hx) ha
  refine wpAny_execs_cons (wpAny_Return_some (Ev.use (c := ⟨prog, w, A, env⟩) (ev_tup (.cons (d := .list (os.map Ord.d)) (ev_name H (by repeat (first | exact lk_here | refine lk_there (by decide +kernel) ?_))) (.cons ev_bool .nil)) rfl (by show 2 ≤ 1000; decide)) F₁ fun v s₂ e₂ F₂ A₂ => ⟨v, rfl, ?_, A₂.mono (vw_less fun x hx => List.mem_cons_of_mem _ hx)⟩))
  refine (hs.trans e₂.same).ext ?_
  have := F₂.grown
  rw [← hh]; exact this
theorem Lr.le {w : World} {S S' : St} {env : Env} {sm l : Addr} {as : List Addr} {b : Array UInt8} {outer : List Env} {s₀ s : Shared} (r : Lr b0 w S env sm l as b outer s₀ s) (h : Le S S') : Lr b0 w S' env sm l as b outer s₀ s := ⟨r.same, r.fs.le h, r.st, r.fr⟩
section
variable {prog : Program} {w : World}
theorem law_read {b : Array UInt8} (hz : b.size ≤ 20000) {A : Around} {s : Shared} {vs : List Value} {T : List Addr} {outer : List Env} (R : Room 4 A) (hA : A.frames = some outer) (fr : Frames b0 s.heap outer) (W : Wd b0 w s.heap) (hT : ∀ x ∈ T, ∃ o, s.heap.get? x = some o) (hv : DAll (vw T s.heap) vs [.bytes b]) (hb0 : b0 ≤ s.heap.objs.size) :
    codeAny (model prog w) A (.call (.ref 161) ⟨vs, []⟩) (fun res s' => ∃ v, res = .ok (.ret v) ∧ Ext b0 s s' ∧ DAt (vw T s'.heap) v (readD b)) s := by
  obtain ⟨u, rfl⟩ : ∃ u, vs = [u] := by
    cases hv with
    | cons h r => cases r; exact ⟨_, rfl⟩
  refine code_call R.room (W.obj (a := 161) rfl) rfl W.lim (W.code (by kernel_rfl)) rfl (binds := [("octets", u)]) (by show wpAny _ _ (pure [("octets", u)] : Sem (List (Str × Value))) _ _ _; with_reducible exact wpAny_pure ⟨rfl, rfl⟩) rfl (fun x hx => by rw [List.mem_singleton.mp hx]; rfl) (fun s₁ X => ?_) rfl rfl rfl
  obtain ⟨H, hs, F⟩ := call_start (b0 := b0) (binds := [("octets", u)]) (T := T) (σ := [("octets", .bytes b)]) W hT rfl rfl rfl (fun p hp => by rw [List.mem_singleton.mp hp]; rfl) (by simp) rfl hv X
  have hLn : s.heap.get? s.heap.objs.size = none := fresh_none _
  have G : Grow b0 s.heap s₁.heap := .of X.toInCall.keep
  have hA₁ : ∀ env, (A.deeper env).frames = some (env :: outer) := fun env => Around.frames_deeper hA
  have R₁ : ∀ env, Room 3 (A.deeper env) := fun env => R.deeper
  refine wpAny_execs_cons (wpAny_Assign_Name ?_ rfl)
  refine Call_ (g_stream.go _ _ _ _ _ _ _ H rfl F.wd ?_)
  obtain ⟨oc, od, fd4, osl, hK4⟩ : ∃ oc od fd osl, (frag w.params).lookup 154 = some ⟨oc, od, .func fd, osl⟩ := ⟨_, _, _, _, rfl⟩
  refine callWith_def (o := ⟨oc, od, .func fd4, osl⟩) rfl ?_ rfl
  refine EvAll.use (c := ⟨prog, w, A.deeper _, callEnvC _ s.heap.objs.size 161⟩) (.cons (d := .bytes b) (ev_name H (by repeat (first | exact lk_here | refine lk_there (by decide +kernel) ?_))) .nil) rfl F fun vs s₂ e₂ F₂ A₂ => ?_
  refine ⟨F₂.wd.obj hK4, wpAny_call (codeAny_mono (stream_made _ s₂ vs [] T ((R₁ _).mono (by decide)) F₂.wd F₂.hid A₂ rfl .nil) fun res s₃ q => ?_)⟩
  obtain ⟨v, rfl, e₃, sm, l, rfl, hl2, st, sth⟩ := q
  have hl2' : ∃ o, s₃.heap.get? l = some o := by obtain ⟨o, _, _, e, _⟩ := st.list; exact ⟨o, e⟩
  have F₃ := F₂.hide e₃.grow hl2 hl2'
  obtain ⟨m, hn, _⟩ := id F₂.frame
  obtain ⟨oL, es, ep, eL, dL, _⟩ := hn
  have st3 := sth _ oL es ep eL dL
  have hl0 : s.heap.get? l = none := by
    cases q : s.heap.get? l with
    | none => rfl
    | some o =>
      by_cases q' : l = 149
      · obtain ⟨ps, e', _⟩ := F₂.tab
        rw [← q', hl2] at e'; cases e'
      · obtain ⟨_, e⟩ := (F₂.keep l o q' q).there
        (first | exact clash hl2 e | exact none1 hl2 e | obtain rfl := one1 hl2 e | (rw [hl2] at e; cases e))
  have n149 : ∀ (h : Heap) (x : Addr) (o : Obj), TabOk h → h.get? x = some o → (∀ vs, o.data ≠ .fields vs) → x ≠ 149 := fun h x o t e d q => by
    obtain ⟨ps, e', _⟩ := t
    (first | exact none2 q e' e | obtain rfl := one2 q e' e | (rw [q, e'] at e; cases e)); exact d _ rfl
  have fr3 : Frames b0 (hideAll s₃.heap [s.heap.objs.size]) outer := fr.up fun x o es ep e d => by
    have nL : x ∉ [s.heap.objs.size] := fun q => by (first | exact none2 (List.mem_singleton.mp q) hLn e | obtain rfl := one2 (List.mem_singleton.mp q) hLn e | (rw [List.mem_singleton.mp q, hLn] at e; cases e))
    rcases F₃.keep x o (n149 _ x o W.tab e fun vs q => by (first | exact clash d q | exact none1 d q | obtain rfl := one1 d q | (rw [d] at q; cases q))) e with e' | ⟨_, _, _, sl, _, e'⟩
    · exact ⟨o.slots, hideAll_get _ e' nL⟩
    · exact ⟨sl, hideAll_get _ e' nL⟩
  have r3 : Lr b0 w _ _ sm l [s.heap.objs.size] b outer s s₃ := ⟨(hs.trans e₂.same).trans e₃.same, F₃, st3, fr3⟩
  refine wpAny_mono (FS.store (x := "stream") H F₃ (.data (d := .val (.ref sm)) (.val _) (fun _ _ _ q => by cases q)) (.inl rfl)) (fun _ s₄ q₄ => ?_) fun _ _ x => x.elim
  obtain ⟨hs4, F₄, _, sb4⟩ := q₄
  have r4 := r3.but F₃.tabL hs4 F₄ fun x o hx e => (sb4 rfl).extBut x o (fun q => hx (List.mem_singleton.mpr q)) e
  refine wpAny_execs_cons (wpAny_Assign_Name (List_ (EvAll.use (c := ⟨prog, w, A.deeper _, callEnvC _ s.heap.objs.size 161⟩) .nil rfl F₄ fun vs s₅ e₅ F₅ A₅ => ?_)) rfl)
  obtain rfl : vs = [] := by cases A₅; rfl
  refine wpAny_newObj_type ?_ (by show (0 : Nat) ≤ sizeLine; decide)
  generalize hae : s₅.heap.objs.size = a
  have hno : s₅.heap.get? a = none := hae ▸ fresh_none _
  have hpa : (s₅.heap.push { cls := .type "list", data := .seq #[] }).get? a = some { cls := .type "list", data := .seq #[] } := hae ▸ Heap.get?_push_size _ rfl
  have F₆ := F₅.hide (Grow.push _ { cls := .type "list", data := .seq #[] }) hno ⟨_, hpa⟩
  have ha0 : s.heap.get? a = none := by
    cases q : s.heap.get? a with
    | none => rfl
    | some o =>
      by_cases q' : a = 149
      · obtain ⟨ps, e', _⟩ := F₅.tab
        rw [← q', hno] at e'; cases e'
      · obtain ⟨_, e⟩ := (F₅.keep a o q' q).there
        (first | exact clash hno e | exact none1 hno e | obtain rfl := one1 hno e | (rw [hno] at e; cases e))
  have haT : a ∉ l :: T := fun q => by obtain ⟨o, e⟩ := F₅.hid a q; (first | exact clash hno e | exact none1 hno e | obtain rfl := one1 hno e | (rw [hno] at e; cases e))
  refine wpAny_mono (FS.store (x := "orders") (s := { s₅ with heap := s₅.heap.push { cls := .type "list", data := .seq #[] } }) (σ' := [("stream", .val (.ref sm))]) (own' := some ("orders", a, [])) H F₆ ⟨fun y d hy => .inr ?_, .inr ⟨a, [], #[], rfl, rfl, .head _, ha0, ⟨_, 0, hpa, rfl, rfl, rfl⟩, .nil⟩⟩ (.inl rfl)) (fun _ s₇ q₇ => ?_) fun _ _ x => x.elim
  · have := List.mem_singleton.mp (mem_of_lookup hy)
    cases this
    exact ⟨by decide +kernel, rfl⟩
  obtain ⟨hs7, F₇, _, sb7⟩ := q₇
  have r5 := r4.ext F₄.tabL e₅
  have hL5 : ∃ oL, s₅.heap.get? s.heap.objs.size = some oL := by obtain ⟨m, ⟨oL, _, _, e, _⟩, _⟩ := F₅.frame; exact ⟨oL, e⟩
  have haL : a ≠ s.heap.objs.size := fun q => by obtain ⟨o, e⟩ := hL5; rw [← q, hno] at e; cases e
  have r7 : Lr b0 w (lrS s.heap T sm l a []) _ sm l [s.heap.objs.size, a] b outer s s₇ := r5.but' F₅.tabL (Same.trans ⟨_, _, rfl⟩ hs7) F₇ (fun x o hx e => (sb7 rfl).extBut x o (fun q => hx (List.mem_singleton.mpr q)) (Heap.get?_push_of_some _ e)) fun x hx => by
    rcases List.mem_cons.mp hx with rfl | hx
    · exact hideAll_none _ (List.mem_singleton.mpr rfl)
    · rw [List.mem_singleton.mp hx]
      cases q : (hideAll s₅.heap [s.heap.objs.size]).get? a with
      | none => rfl
      | some o => (first | exact clash (of_hideAll _ q) hno | exact none1 (of_hideAll _ q) hno | obtain rfl := one1 (of_hideAll _ q) hno | (rw [of_hideAll _ q] at hno; cases hno))
  have hal : a ≠ l := fun q => haT (q ▸ List.mem_cons_self ..)
  refine wpAny_execs_cons (wpAny_Try_except ?_)
  refine wpAny_execs_cons (wpAny_For ?_)
  refine Call_Name1 (g_range.go _ _ _ _ _ _ _ H rfl F₇.wd (PyProof.Rows.callWith_type rfl (Calls.evalArgs_plain (Calls.spliced_cons ?_)))) rfl
  obtain ⟨y7, st7, fr7⟩ := r7.way (bs := [s.heap.objs.size, a]) (F₇.tabLa rfl) fun x hx => hx
  refine y7.reader H ((R₁ _).mono (by decide)) (hA₁ _) (by show ScopeKind.function ≠ ScopeKind.module; decide) rfl hb0 (F₇.tabLa rfl) st7 fr7 (fun x a' ds q => by cases q; exact hal) (.tail _ (.head _)) hl0 rfl g_read_uint1 (hK := rfl) (rd_uint1 (by omega)) lk_here (by decide +kernel) (by decide +kernel) (fun d hd v s₈ hv y8 => ?_) (fun hd e s'' rf F => ?_)
  rotate_left
  · have hb : b.toList = [] := by
      unfold firstD at hd
      cases q : b.toList with
      | nil => rfl
      | cons x r => (first | exact clash q hd | exact none1 q hd | obtain rfl := one1 q hd | (rw [q] at hd; cases hd))
    have hr : readD b = .tup [.list (([] : List Ord).map Ord.d), .bool true] := by unfold readD readAll; rw [hb]
    rw [hr]
    refine caught H (hA₁ _) rfl rfl rfl rf F (fun x o n e => ?_) hl0 (hid_of F rfl rfl hT rf.2.2.2.1.list) fun h' F' => ?_
    · exact (F₇.keep x o n e).exact fun o' e' => hideAll_get _ e' fun hm => by
        rcases List.mem_cons.mp hm with rfl | hm
        · (first | exact clash hLn e | exact none1 hLn e | obtain rfl := one1 hLn e | (rw [hLn] at e; cases e))
        · (first | exact none2 (List.mem_singleton.mp hm) ha0 e | obtain rfl := one2 (List.mem_singleton.mp hm) ha0 e | (rw [List.mem_singleton.mp hm, ha0] at e; cases e))
    · refine wpAny_mono (lr_end H F' rfl rfl rfl haT (r7.same.trans (Same.trans (Same.trans ⟨_, _, rfl⟩ rf.1) ⟨h', _, rfl⟩)) rfl) (fun f s9 q => ?_) fun _ _ x => x
      obtain ⟨v, rfl, q⟩ := q
      exact ⟨v, rfl, q⟩
  obtain ⟨x0, r0, hb⟩ : ∃ x r, b.toList = x :: r := by
    unfold firstD at hd
    cases q : b.toList with
    | nil => (first | exact clash q hd | exact none1 q hd | obtain rfl := one1 q hd | (rw [q] at hd; cases hd))
    | cons x r => exact ⟨x, r, rfl⟩
  have hd2 : d = .int (x0.toNat : Int) := by unfold firstD at hd; (first | exact clash hb hd | exact none1 hb hd | obtain rfl := one1 hb hd | (rw [hb] at hd; cases hd)); rfl
  subst hd2
  have hr0 : (b.toList.drop 1).toArray = r0.toArray := by rw [hb]; rfl
  rw [hr0] at y8
  have hrz : r0.length ≤ 20000 := by
    have : b.toList.length = r0.length + 1 := by rw [hb]; rfl
    simp at this; omega
  obtain ⟨t8, rfl⟩ : ∃ t', v = .int (x0.toNat : Int) t' := by cases hv (fun _ => none); exact ⟨_, rfl⟩
  have r8 := y8.lr r7 (F₇.tabLa rfl) fun x hx => hx
  have hx256 := UInt8.toNat_lt x0
  refine Calls.spliced_nil (call_range_1 (wpAny_pyIter_range (IsRange.new ..) (small_one (by decide) (by decide) (by omega) (by omega)) ?_))
  generalize hr9 : s₈.heap.push { cls := .type "range", data := .fields #[.int 0 s₈.toks, .int (x0.toNat : Int) t8, .int 1 (s₈.toks + 1)] } = h9
  have e9 : Ext b0 s₈ { s₈ with heap := h9, toks := s₈.toks + 1 + 1 } := by rw [← hr9]; exact Ext.push _
  have r9 := r8.ext (r8.fs.tabLa rfl) e9
  generalize hIe : h9.objs.size = I
  have hIno : h9.get? I = none := hIe ▸ fresh_none _
  have F9 := r9.fs
  have hI149 : I ≠ 149 := hIe ▸ fresh_149 F9.tab
  have hIT : I ∉ a :: l :: T := fun q => by obtain ⟨o, e⟩ := F9.hid I q; (first | exact clash hIno e | exact none1 hIno e | obtain rfl := one1 hIno e | (rw [hIno] at e; cases e))
  have hI0 : s.heap.get? I = none := by
    cases q : s.heap.get? I with
    | none => rfl
    | some o => obtain ⟨_, e⟩ := (F9.keep I o hI149 q).there; (first | exact clash hIno e | exact none1 hIno e | obtain rfl := one1 hIno e | (rw [hIno] at e; cases e))
  have hIL : I ≠ s.heap.objs.size := fun q => by
    obtain ⟨m, ⟨oL, _, _, e, _⟩, _⟩ := F9.frame
    have e : h9.get? s.heap.objs.size = some oL := e
    rw [← q, hIno] at e; cases e
  have hIa : I ≠ a := fun q => hIT (q ▸ List.mem_cons_self ..)
  have hsz : Builtin.Range.rangeSize 0 (x0.toNat : Int) 1 = (x0.toNat : Int) := by rw [rangeSize_nat]; omega
  rw [hsz]
  generalize hn : x0.toNat = n at *
  have hI10 : (h9.push { cls := .type "range_iterator", data := .fields #[rawInt 0, rawInt (n : Int), rawInt 1] }).get? I = some { cls := .type "range_iterator", data := .fields #[rawInt 0, rawInt (n : Int), rawInt 1] } := hIe ▸ Heap.get?_push_size _ rfl
  generalize hh10 : h9.push { cls := .type "range_iterator", data := .fields #[rawInt 0, rawInt (n : Int), rawInt 1] } = h10 at hI10
  have k10 : ∀ x o, h9.get? x = some o → h10.get? x = some o := fun x o e => hh10 ▸ Heap.get?_push_of_some _ e
  have r10 : Lr b0 w (lrS s.heap T sm l a []) _ sm l [s.heap.objs.size, a, I] r0.toArray outer s { s₈ with heap := h10, toks := s₈.toks + 1 + 1 } := r9.but' (F9.tabLa rfl) ⟨_, _, rfl⟩ (F9.ext (s' := { s₈ with heap := h10, toks := s₈.toks + 1 + 1 }) (Ext.of k10)) (fun x o _ e => k10 x o e) fun x hx => by
    rcases List.mem_cons.mp hx with rfl | hx
    · exact hideAll_none _ (List.mem_cons_self ..)
    · rcases List.mem_cons.mp hx with rfl | hx
      · exact hideAll_none _ (List.mem_cons_of_mem _ (List.mem_cons_self ..))
      · rw [List.mem_singleton.mp hx]
        cases q : (hideAll h9 [s.heap.objs.size, a]).get? I with
        | none => rfl
        | some o => (first | exact clash (of_hideAll _ q) hIno | exact none1 (of_hideAll _ q) hIno | obtain rfl := one1 (of_hideAll _ q) hIno | (rw [of_hideAll _ q] at hIno; cases hIno))
  have ish : ∀ (h : Heap) (i : Nat), IsRangeIter h I (0 + (i : Int) * 1) ((n : Int) - (i : Int)) 1 → Iterish h I := fun h i e => ⟨_, _, e, rfl, by intro q t; simp [rawInt]⟩
  have rdAll : readAll b = readMany n r0.toArray := by unfold readAll; rw [hb]; simp only [hn]
  refine codeAny_forLoop (fun k s' => ∃ (i : Nat) (bb : Array UInt8) (os : List Ord), i ≤ n ∧ k = n + 1 - i ∧ IsRangeIter s'.heap I (0 + (i : Int) * 1) ((n : Int) - (i : Int)) 1 ∧ os.length = i ∧ bb.size ≤ 20000 ∧ readMany n r0.toArray = (os ++ (readMany (n - i) bb).1, (readMany (n - i) bb).2) ∧ Lr b0 w (lrS s.heap T sm l a os) (callEnvC _ s.heap.objs.size 161) sm l [s.heap.objs.size, a, I] bb outer s s') ?_ (n + 1) ⟨0, r0.toArray, [], Nat.zero_le _, rfl, ?_, rfl, by simpa using hrz, by simp, r10⟩
  rotate_left
  · show h10.get? I = _
    simpa using hI10
  rintro k s' ⟨i, bb, os, hi, rfl, hit, hos, hbb, hrm, r⟩
  have W := fun env => Walks.range (prog := prog) (w := w) (R₁ env).handled I 0 1 n
  by_cases hlt : i < n
  · refine (W _).item i s' _ _ hlt hit fun v h₁ tk₁ hPv hst₁ hk₁ => ?_
    have ku : ∀ x o, x ≠ I → s'.heap.get? x = some o → h₁.get? x = some o := fun x o hx e => hk₁ x o (by simpa using hx) e
    have t' := r.fs.tabLaI rfl (ish _ _ hit) hI149 hIL hIa
    have F₁ := r.fs.turned (ish _ _ hit) hI0 hI149 ku hIT
    have r1 := r.but (s' := { s' with heap := h₁, toks := tk₁ }) t' ⟨h₁, tk₁, rfl⟩ F₁ fun x o hx e => ku x o (fun q => hx (by simp [q])) e
    have t1 := F₁.tabLaI rfl (ish _ _ hst₁) hI149 hIL hIa
    obtain ⟨tv, rfl⟩ := hPv
    refine wpAny_passesOwn PassesOwn.looking ?_
    refine wpAny_assign_Name (wpAny_mono (FS.store (x := "turn") (s := { s' with heap := h₁, toks := tk₁ }) H F₁ (.data (d := .int (0 + (i : Int) * 1)) (.int _ _) (fun y a ds q => by cases q; decide +kernel)) (.inl rfl)) (fun _ s₃ q₃ => ?_) fun _ _ z => z.elim)
    obtain ⟨hs₃, F₃, _, sb₃⟩ := q₃
    have sb₃ := sb₃ rfl
    have it₃ : IsRangeIter s₃.heap I (0 + ((i + 1 : Nat) : Int) * 1) ((n : Int) - ((i + 1 : Nat) : Int)) 1 := sb₃.extBut I _ hIL hst₁
    have r3 := r1.but t1 hs₃ F₃ fun x o hx e => sb₃.extBut x o (fun q => hx (List.mem_cons.mpr (.inl q))) e
    have t3 := F₃.tabLaI rfl (ish _ _ it₃) hI149 hIL hIa
    obtain ⟨y3, st3, fr3⟩ := r3.way (bs := [s.heap.objs.size, a]) t3 (by intro x hx; simp at hx ⊢; rcases hx with h | h <;> simp [h])
    have tt := F₃.tabLa rfl
    refine wpAny_passesOwn PassesOwn.looking ?_
    refine wpAny_execs_cons (wpAny_Assign_Name (y3.reader H ((R₁ _).mono (by decide)) (hA₁ _) (by show ScopeKind.function ≠ ScopeKind.module; decide) rfl hb0 tt st3 fr3 (fun x a' ds q => by cases q; exact hal) (.tail _ (.head _)) hl0 rfl g_read_uint1 (hK := rfl) (rd_uint1 (by omega)) (by repeat (first | exact lk_here | refine lk_there (by decide +kernel) ?_)) (by decide +kernel) (by decide +kernel) (fun d hd v s₄ hv y4 => ?_) (fun hd e s'' rf F => ?_)) rfl)
    rotate_left
    · have hbn : (readOne bb).1 = none := by
        unfold firstD at hd
        cases q : bb.toList with
        | nil => exact readOne_nil q
        | cons x r => (first | exact clash q hd | exact none1 q hd | obtain rfl := one1 q hd | (rw [q] at hd; cases hd))
      have hr : readD b = .tup [.list (os.map Ord.d), .bool true] := by
        unfold readD
        rw [rdAll, hrm, show n - i = (n - (i + 1)) + 1 by omega, readMany_no hbn]; simp
      rw [hr]
      refine caught H (hA₁ _) rfl rfl rfl rf F (fun x o nn e => ?_) hl0 (hid_of F rfl rfl hT rf.2.2.2.1.list) fun h' F' => ?_
      · have e : s.heap.get? x = some o := e
        exact (F₃.keep x o nn e).exact fun o' e' => hideAll_get _ e' fun hm => by
          rcases List.mem_cons.mp hm with rfl | hm
          · (first | exact clash hLn e | exact none1 hLn e | obtain rfl := one1 hLn e | (rw [hLn] at e; cases e))
          · (first | exact none2 (List.mem_singleton.mp hm) ha0 e | obtain rfl := one2 (List.mem_singleton.mp hm) ha0 e | (rw [List.mem_singleton.mp hm, ha0] at e; cases e))
      · refine wpAny_mono (lr_end H F' rfl rfl rfl haT (r3.same.trans (Same.trans (Same.trans ⟨_, _, rfl⟩ rf.1) ⟨h', _, rfl⟩)) rfl) (fun f s9 q => ?_) fun _ _ x => x
        obtain ⟨v, rfl, q⟩ := q
        exact ⟨v, rfl, q⟩
    obtain ⟨k, rr, hbk⟩ : ∃ x r, bb.toList = x :: r := by
      unfold firstD at hd
      cases q : bb.toList with
      | nil => (first | exact clash q hd | exact none1 q hd | obtain rfl := one1 q hd | (rw [q] at hd; cases hd))
      | cons x r => exact ⟨x, r, rfl⟩
    have hd2 : d = .int (k.toNat : Int) := by unfold firstD at hd; (first | exact clash hbk hd | exact none1 hbk hd | obtain rfl := one1 hbk hd | (rw [hbk] at hd; cases hd)); rfl
    subst hd2
    have hrr : (bb.toList.drop 1).toArray = rr.toArray := by rw [hbk]; rfl
    rw [hrr] at y4
    have hrl : rr.length < bb.size := by
      have : bb.toList.length = rr.length + 1 := by rw [hbk]; rfl
      simp at this; omega
    obtain ⟨t4, rfl⟩ : ∃ t', v = .int (k.toNat : Int) t' := by cases hv (fun _ => none); exact ⟨_, rfl⟩
    have hLs : (hideAll s₃.heap [s.heap.objs.size, a]).get? s.heap.objs.size = none := hideAll_none _ (List.mem_cons_self ..)
    have has : (hideAll s₃.heap [s.heap.objs.size, a]).get? a = none := hideAll_none _ (.tail _ (.head _))
    refine y4.set H (x := "kind") (fun y a ds q => by cases q; decide +kernel) (.int _ t4) rfl hLs fun s₅ y5 => ?_
    refine wpAny_execs_cons (wpAny_Assign_Name (y5.thing hbk H (R₁ _) (hA₁ _) (by show ScopeKind.function ≠ ScopeKind.module; decide) rfl hb0 tt st3 fr3 (fun x a' ds q => by cases q; exact hal) (.tail _ (.head _)) hl0 (by omega) rfl rfl rfl (by repeat (first | exact lk_here | refine lk_there (by decide +kernel) ?_)) lk_here (fun o d b' v s₆ ho hod hbz hv6 y6 => ?_) (fun hno e b' s'' rf F => ?_)) rfl)
    rotate_left
    · have hr : readD b = .tup [.list (os.map Ord.d), .bool true] := by
        unfold readD
        rw [rdAll, hrm, show n - i = (n - (i + 1)) + 1 by omega, readMany_no hno]; simp
      rw [hr]
      refine caught H (hA₁ _) rfl rfl rfl rf F (fun x o nn e => ?_) hl0 (hid_of F rfl rfl hT rf.2.2.2.1.list) fun h' F' => ?_
      · have e : s.heap.get? x = some o := e
        exact (F₃.keep x o nn e).exact fun o' e' => hideAll_get _ e' fun hm => by
          rcases List.mem_cons.mp hm with rfl | hm
          · (first | exact clash hLn e | exact none1 hLn e | obtain rfl := one1 hLn e | (rw [hLn] at e; cases e))
          · (first | exact none2 (List.mem_singleton.mp hm) ha0 e | obtain rfl := one2 (List.mem_singleton.mp hm) ha0 e | (rw [List.mem_singleton.mp hm, ha0] at e; cases e))
      · refine wpAny_mono (lr_end H F' rfl rfl rfl haT (r3.same.trans (Same.trans (Same.trans ⟨_, _, rfl⟩ rf.1) ⟨h', _, rfl⟩)) rfl) (fun f s9 q => ?_) fun _ _ x => x
        obtain ⟨v, rfl, q⟩ := q
        exact ⟨v, rfl, q⟩
    refine y6.set H (x := "thing") (fun y a ds q => by cases q; decide +kernel) (hv6 _) rfl hLs fun s₇ y7 => ?_
    refine wpAny_execs_cons (y7.append H rfl has (Ne.symm hal) (ev_tup (.cons (d := .int (k.toNat : Int)) (ev_name H (by repeat (first | exact lk_here | refine lk_there (by decide +kernel) ?_))) (.cons (d := d) (ev_name H (by repeat (first | exact lk_here | refine lk_there (by decide +kernel) ?_))) .nil))) (fun s₈ y8 => ?_) (by rw [List.length_map]; omega))
    refine wpAny_execs_nil ?_
    have it8 : IsRangeIter s₈.heap I (0 + ((i + 1 : Nat) : Int) * 1) ((n : Int) - ((i + 1 : Nat) : Int)) 1 := (y8.keep I _ hI149 (fun q => hIT (q ▸ .tail _ (.head _))) (hideAll_get _ it₃ (by intro q; simp at q; rcases q with q | q; exact hIL q; exact hIa q))).nd fun es ep q => by cases q
    have hsub : ∀ x ∈ [s.heap.objs.size, a], x ∈ [s.heap.objs.size, a, I] := by intro x hx; simp at hx ⊢; rcases hx with h | h <;> simp [h]
    have r8' := y8.lr r3 t3 hsub
    have hni : n - i = (n - (i + 1)) + 1 := by omega
    refine ⟨n + 1 - (i + 1), turn_lt hlt, i + 1, b', os ++ [o], hlt, rfl, it8, by simp [hos], by omega, ?_, ?_⟩
    · rw [hrm, hni, readMany_yes ho]; simp
    · refine r8'.le ⟨rfl, rfl, rfl, ?_, fun y d hy => ?_⟩
      · show some _ = some _
        rw [List.map_append]
        simp [hod]
      · have := List.mem_singleton.mp (mem_of_lookup hy)
        cases this
        exact (by repeat (first | exact lk_here | refine lk_there (by decide +kernel) ?_))
  · have hin : i = n := by omega
    subst hin
    refine (W _).done s' _ _ hit fun h₁ tk₁ hk₁ => ?_
    have ku : ∀ x o, x ≠ I → s'.heap.get? x = some o → h₁.get? x = some o := fun x o hx e => hk₁ x o (by simpa using hx) e
    have F₁ := r.fs.turned (ish _ _ hit) hI0 hI149 ku hIT
    have hr : readD b = .tup [.list (os.map Ord.d), .bool false] := by
      unfold readD
      rw [rdAll, hrm, Nat.sub_self]
      simp [readMany]
    rw [hr]
    refine wpAny_execs_nil (wpAny_execs_nil (wpAny_execs_nil ?_))
    refine wpAny_mono (lr_end (s' := { s' with heap := h₁, toks := tk₁ }) H F₁ rfl rfl rfl haT (r.same.trans ⟨h₁, tk₁, rfl⟩) rfl) (fun f s9 q => ?_) fun _ _ x => x
    obtain ⟨v, rfl, q⟩ := q
    exact ⟨v, rfl, q⟩
end

end Mine
/- part B45 -/
namespace Mine
open PySem PySem.W PySem.Calls PyProof.Rows
variable {b0 : Nat}
section
variable {prog : Program} {w : World} {A : Around} {E : Value → Shared → Prop} {R : Result → Shared → Prop} {s : Shared}
theorem compLoop_pairT {elt iter : Expr} {elts : List Expr} {ifs : List Expr} {x1} {tp : Pos} {scope : Scope} {pos : Pos} {it acc : Value} {env : Env} (I : Nat → Shared → Prop)
    (turn : ∀ n s, I n s → wpAny (model prog w) A (pyNext it) (fun r s₁ => match r with
      | none => R (.ok .next) s₁
      | some v => wpAny (model prog w) A (letOwnedTupleGo (.Tuple elts x1 tp) it v) (fun _ s₁' => wpAny (model prog w) A (assign (.Tuple elts x1 tp) env v) (fun _ s₂ =>
          wpAny (model prog w) A (forIn ifs true fun c r => if r = true then do let ok ← isTrue c env (eval c env); pure (ForInStep.yield ok) else pure (ForInStep.yield r)) (fun ok s₃ =>
            ok = false ∧ ∃ m, m < n ∧ I m s₃) (notedBy (model prog w) A env fun e s' => R (.error e) s') s₂) (notedBy (model prog w) A env fun e s' => R (.error e) s') s₁') (notedBy (model prog w) A env fun e s' => R (.error e) s') s₁) (notedBy (model prog w) A env fun e s' => R (.error e) s') s)
    (n : Nat) (h : I n s) : codeAny (model prog w) A (.compLoop (.ListComp elt [⟨.Tuple elts x1 tp, iter, ifs, 0⟩] scope pos) 0 it acc env) R s := by
  refine codeAny_loop rfl I (fun n s hI => ?_) n h
  show wpAny _ A ((compTurn (.ListComp elt [⟨.Tuple elts x1 tp, iter, ifs, 0⟩] scope pos) 0 it acc env).onRaise (fun x => do noteFrame x env; theTreesLotGoes x)) _ _ s
  refine wpAny_noted ?_
  rw [compTurn_list]
  refine wpAny_bind (wpAny_standAt (wpAny_bind (wpAny_mono (turn n s hI) (fun r s₁ h₁ => ?_) fun _ _ h' => h')))
  cases r with
  | none => exact wpAny_pure h₁
  | some v =>
    refine wpAny_bind (wpAny_mono h₁ (fun _ s₁' h₁' => ?_) fun _ _ h' => h')
    refine wpAny_bind (wpAny_mono h₁' (fun _ s₂ h₂ => wpAny_bind (wpAny_mono h₂ (fun ok s₃ h₃ => ?_) fun _ _ h' => h')) fun _ _ h' => h')
    obtain ⟨rfl, h₃⟩ := h₃
    exact wpAny_bind (wpAny_pure (wpAny_pure ⟨rfl, h₃⟩))
end
section
variable {c : Cx} {S : St}
/-- two names stored from a pair -/
theorem pair_store (H : EnvOk c.env) (hh : c.A.handled = none) {x y : Str} {p q tp : Pos} {k : Nat} {v : Value} {d₁ d₂ : D} {s : Shared} (F : FS b0 c.w c.env S s.heap) (hv : DAt (vw S.T s.heap) v (.tup [d₁, d₂])) (hx : c.env.kindOf x = some .local) (hy : c.env.kindOf y = some .local) (ox : OwnNot S x) (oy : OwnNot S y)
    {Q : Unit → Shared → Prop} {E : Value → Shared → Prop} (h : ∀ s', Same s s' → FS b0 c.w c.env ((S.set x d₁).set y d₂) s'.heap → NotFrame s.heap s'.heap → Q () s') :
    wpAny (model c.prog c.w) c.A (assign (.Tuple [.Name x p, .Name y q] k tp) c.env v) Q E s := by
  obtain ⟨a, us, rfl, _, hl, r⟩ := hv.isTup vw_le
  have hsz := r.length
  simp only [Array.length_toList, List.length_cons, List.length_nil] at hsz
  have hu : ∃ u₁ u₂, us.toList = [u₁, u₂] := by
    obtain ⟨l⟩ := us
    match l, hsz with
    | [u₁, u₂], _ => exact ⟨u₁, u₂, rfl⟩
  obtain ⟨u₁, u₂, hu⟩ := hu
  rw [hu] at r
  obtain ⟨B₁, B₂⟩ : DAt (vw S.T s.heap) u₁ d₁ ∧ DAt (vw S.T s.heap) u₂ d₂ := by
    cases r with | cons h1 h2 => cases h2 with | cons h2 _ => exact ⟨h1, h2⟩
  refine wpAny_assign_Tuple hh hl (by show 2 = us.size; omega) rfl fun h' hb => ?_
  have kb : ∀ b o, s.heap.get? b = some o → h'.get? b = some o := fun b o e => hb b o (fun q => by (first | exact none2 q fresh_none e | obtain rfl := one2 q fresh_none e | (rw [q, fresh_none] at e; cases e))) e
  have e2 : Ext b0 s { s with heap := h' } := .of kb
  have F₂ := F.ext e2
  rw [hu]
  refine wpAny_assignInOrder_more (wpAny_assign_Name (wpAny_mono (FS.store (s := { s with heap := h' }) H F₂ (.data (B₁.mono (vw_sub F.tab e2.grow)) ox) (.inl hx)) (fun _ s₃ q₃ => ?_) fun _ _ z => z.elim))
  obtain ⟨hs₃, F₃, hnf, _⟩ := q₃
  have vs3 : Sub (vw S.T h') (vw S.T s₃.heap) := fun b ob e hc hd => by
    unfold vw at e ⊢
    split at e
    · cases e
    · rename_i hb
      rw [if_neg hb]
      obtain ⟨vs, n, hd⟩ := hd
      exact hnf _ _ e (fun es ep q => by (first | exact clash hd q | exact none1 hd q | obtain rfl := one1 hd q | (rw [hd] at q; cases q))) fun v q => by (first | exact clash hd q | exact none1 hd q | obtain rfl := one1 hd q | (rw [hd] at q; cases q))
  refine wpAny_assignInOrder_more (wpAny_assign_Name (wpAny_mono (FS.store H F₃ (.data ((B₂.mono (vw_sub F.tab e2.grow)).mono vs3) oy) (.inl hy)) (fun _ s₄ q₄ => ?_) fun _ _ z => z.elim))
  obtain ⟨hs₄, F₄, hnf4, _⟩ := q₄
  refine wpAny_assignInOrder_none (h s₄ ((Same.trans ⟨h', _, rfl⟩ hs₃).trans hs₄) F₄ fun b o e nd nc => hnf4 b o (hnf b o (kb b o e) nd nc) nd nc)
end

end Mine
/- part B46 -/
namespace Mine
open PySem PySem.W PySem.Calls PyProof.Rows
variable {b0 : Nat}
section
variable {c : Cx} {S : St}
/-- a comprehension over pairs that keeps none -/
theorem ev_comp_pairs (H : EnvOk c.env) (hh : c.A.handled = none) {elt iter t : Expr} {x y : Str} {px py tp : Pos} {tk : Nat} {scope : Scope} {pos : Pos} {ds : List D} (σc : List (Str × D)) (K : CompOk c scope) (hcap : Capt c S scope σc)
    (hsrc : Ev b0 c S iter (.list ds)) (hp : ∀ d ∈ ds, ∃ d₁ d₂, d = .tup [d₁, d₂])
    (hx : ∀ C, (cenvOf scope c.env C).kindOf x = some .local) (hy : ∀ C, (cenvOf scope c.env C).kindOf y = some .local)
    (turn : ∀ (C : Addr) (h₀ : Heap) (a : Addr) (d₁ d₂ : D), .tup [d₁, d₂] ∈ ds → FS b0 c.w c.env S h₀ → EnvOk (cenvOf scope c.env C) →
      Tst b0 { c with env := cenvOf scope c.env C } { h₀ := h₀, T₀ := S.T, T := a :: S.T, σ := (y, d₂) :: (x, d₁) :: σc, own := none } t false)
    (hxc : σc.lookup x = none) (hyc : σc.lookup y = none)
    (hs : ∀ y, foldedSetIterable iter c.env y = pure y := by intro _; rfl) :
    Ev b0 c S (.ListComp elt [⟨.Tuple [.Name x px, .Name y py] tk tp, iter, [t], 0⟩] scope pos) (.list []) := ⟨fun s F => by
  rw [eval_ListComp]
  refine wpAny_comprehension_free (cl := clOf c.env scope.names []) rfl hs (closure_of K.free) K.kind K.names (hsrc.use F fun v s₁ e₁ F₁ A₁ => ?_)
  obtain ⟨ax, vs, rfl, eg, hl, r⟩ := A₁.isList vw_le
  refine wpAny_pyIter_list hl ?_
  generalize hIe : s₁.heap.objs.size = I
  generalize hHe : s₁.heap.push { cls := .type "list_iterator", data := .fields #[.ref ax, .int 0 0] } = H2
  have e₂ : Ext b0 s₁ { s₁ with heap := H2 } := hHe ▸ Ext.push _
  have hIn : s₁.heap.get? I = none := hIe ▸ fresh_none _
  have hI149 : I ≠ 149 := hIe ▸ fresh_149 F₁.tab
  have hit2 : H2.IsListIter I ax 0 := by
    rw [← hHe, ← hIe]
    exact ⟨_, Heap.get?_push_size _ rfl, rfl, rfl⟩
  have hl2 : H2.IsList ax vs := by rw [← hHe]; exact hl.push _
  have F₂ := F₁.ext e₂
  obtain ⟨Hc, Fc⟩ := comp_start H K hcap e₂.grow F₁
  refine wpAny_newObj_type (newEnv_around ?_) (by size_fits)
  have s1 : (H2.push { cls := .type "list", data := .seq #[] }).objs.size = H2.objs.size + 1 := Heap.size_push ..
  dsimp only
  rw [show ([] : List Value).toArray = #[] from rfl, s1]
  have hD0 : (pushCells ((H2.push { cls := .type "list", data := .seq #[] }).push { cls := .type "dict", data := .dict #[] }) scope.names).get? H2.objs.size = some { cls := .type "list", data := .seq #[] } :=
    pushCells_keeps _ _ _ _ (Heap.get?_push_of_some _ (Heap.get?_push_size _ rfl))
  have k04 : ∀ b o, H2.get? b = some o → (pushCells ((H2.push { cls := .type "list", data := .seq #[] }).push { cls := .type "dict", data := .dict #[] }) scope.names).get? b = some o := fun b o e =>
    pushCells_keeps _ _ _ _ (Heap.get?_push_of_some _ (Heap.get?_push_of_some _ e))
  dsimp only at Fc
  generalize hHH : pushCells ((H2.push { cls := .type "list", data := .seq #[] }).push { cls := .type "dict", data := .dict #[] }) scope.names = HH at Fc hD0 k04 ⊢
  dsimp only at Hc
  generalize hDD : H2.objs.size = DD at Fc Hc hD0 ⊢
  have hD1 : s₁.heap.get? DD = none := grow_fresh F₂.tab e₂.grow (Nat.le_of_eq hDD)
  have hID : I ≠ DD := fun q => by obtain ⟨o, e, _⟩ := hit2; rw [q, ← hDD, fresh_none] at e; cases e
  have hIT : I ∉ DD :: S.T := fun q => by
    rcases List.mem_cons.mp q with q | q
    · exact hID q
    · obtain ⟨o, e⟩ := F₁.hid I q; (first | exact clash hIn e | exact none1 hIn e | obtain rfl := one1 hIn e | (rw [hIn] at e; cases e))
  have haxI : ax ≠ I := fun q => by obtain ⟨o, e, _⟩ := hl; (first | exact none2 q hIn e | obtain rfl := one2 q hIn e | (rw [q, hIn] at e; cases e))
  have ax149 : ax ≠ 149 := fun q => by
    obtain ⟨ps, e', _⟩ := F₁.tab
    obtain ⟨o, e, _, n, d⟩ := hl
    (first | exact none2 q e' e | obtain rfl := one2 q e' e | (rw [q, e'] at e; cases e)); cases d
  have up : ∀ (S' : St) h, S'.h₀ = s₁.heap → FS b0 c.w (cenvOf scope c.env (DD + 1)) S' h → Sub (vw S.T s₁.heap) (vw (DD :: S.T) h) := fun S' h e0 F' b ob e hc hd => by
    unfold vw at e ⊢
    split at e
    · cases e
    · rename_i hbT
      rw [if_neg]
      · obtain ⟨vs, n, hd⟩ := hd
        refine (F'.keep b ob (fun q => ?_) (by rw [e0]; exact e)).nd fun es ep q => by (first | exact clash hd q | exact none1 hd q | obtain rfl := one1 hd q | (rw [hd] at q; cases q))
        subst q
        obtain ⟨ps, t1, _⟩ := F₁.tab
        (first | exact clash e t1 | exact none1 e t1 | obtain rfl := one1 e t1 | (rw [e] at t1; cases t1)); cases hd
      · intro q
        rcases List.mem_cons.mp q with rfl | q
        · (first | exact clash hD1 e | exact none1 hD1 e | obtain rfl := one1 hD1 e | (rw [hD1] at e; cases e))
        · exact hbT q
  have hlen : vs.size = ds.length := by have := r.length; simpa using this
  have W := Walks.list (prog := c.prog) (w := c.w) hh I ax haxI vs
  have loop : ∀ s' : Shared, s'.heap = HH → Same s₁ s' → codeAny (model c.prog c.w) c.A (.compLoop (.ListComp elt [⟨.Tuple [.Name x px, .Name y py] tk tp, iter, [t], 0⟩] scope pos) 0 (.ref I) (.ref DD) (cenvOf scope c.env (DD + 1)))
      (compPost (model c.prog c.w) c.A NoE none (fun v s' => Ext b0 s s' ∧ DAt (vw S.T s'.heap) v (.list [])) (.ref DD) (DD + 1)) s' := fun s' hs' hsm => by
    refine compLoop_pairT (fun k s' => ∃ i, k = vs.size + 1 - i ∧ i ≤ vs.size ∧ Same s₁ s' ∧ (s'.heap.IsListIter I ax i ∧ s'.heap.IsList ax vs) ∧ FS b0 c.w (cenvOf scope c.env (DD + 1)) { h₀ := s₁.heap, T₀ := S.T, T := DD :: S.T, σ := σc, own := none } s'.heap ∧ PlainL s'.heap DD #[]) ?_ (vs.size + 1) ⟨0, rfl, Nat.zero_le _, hsm, ?_, hs' ▸ Fc, ?_⟩
    rotate_left
    · rw [hs']
      exact W.frame _ _ _ ⟨hit2, hl2⟩ fun b hb o e => k04 b o e
    · rw [hs']
      exact ⟨_, 0, hD0, rfl, rfl, rfl⟩
    rintro k s' ⟨i, rfl, hi, hsm, hst', F', hpl⟩
    have iter_ish : Iterish s'.heap I := by obtain ⟨⟨o, e, cc, d⟩, _⟩ := hst'; exact ⟨o, _, e, d, by intro q t; simp⟩
    have plI : ∀ h₁ : Heap, (∀ b o, b ≠ I → s'.heap.get? b = some o → h₁.get? b = some o) → PlainL h₁ DD #[] := fun h₁ ku => by
      obtain ⟨o, n, e, r⟩ := hpl
      exact ⟨o, n, ku _ _ (Ne.symm hID) e, r⟩
    by_cases hlt : i < vs.size
    · refine W.item i s' _ _ hlt hst' fun v h₁ tk₁ hPv hst₁ hk₁ => ?_
      obtain ⟨d, hd, Ad⟩ := r.get (i := i) (v := v) (by simpa using hPv)
      obtain ⟨d₁, d₂, rfl⟩ := hp d (List.mem_of_getElem? hd)
      obtain ⟨tT, rfl⟩ : ∃ tT, v = .ref tT := by cases Ad; exact ⟨_, rfl⟩
      have ku : ∀ b o, b ≠ I → s'.heap.get? b = some o → h₁.get? b = some o := fun b o hb e => hk₁ b o (by simpa using hb) e
      have F₃ := F'.turned iter_ish hIn hI149 ku hIT
      have Av : DAt (vw (DD :: S.T) h₁) (.ref tT) (.tup [d₁, d₂]) := Ad.mono (up _ _ rfl F₃)
      have pl₁ := plI h₁ ku
      refine wpAny_letOwnedTupleGo_listiter (s := { s' with heap := h₁, toks := tk₁ }) hst₁.1 ?_
      refine pair_store (c := { c with env := cenvOf scope c.env (DD + 1) }) (s := { s' with heap := h₁, toks := tk₁ }) Hc hh F₃ Av (hx _) (hy _) (fun _ _ _ q => by cases q) (fun _ _ _ q => by cases q) fun s₃ hs₃ F₄ hnf => ?_
      have F₅ : FS b0 c.w (cenvOf scope c.env (DD + 1)) { h₀ := s₁.heap, T₀ := S.T, T := DD :: S.T, σ := (y, d₂) :: (x, d₁) :: σc, own := none } s₃.heap := F₄
      have st₃ : s₃.heap.IsListIter I ax (i + 1) ∧ s₃.heap.IsList ax vs := by
        obtain ⟨⟨o, e, cc, d⟩, ⟨o2, e2, cc2, n2, d2⟩⟩ := hst₁
        exact ⟨⟨o, hnf _ _ e (fun es ep q => by (first | exact clash d q | exact none1 d q | obtain rfl := one1 d q | (rw [d] at q; cases q))) (fun v q => by (first | exact clash d q | exact none1 d q | obtain rfl := one1 d q | (rw [d] at q; cases q))), cc, d⟩, ⟨o2, hnf _ _ e2 (fun es ep q => by (first | exact clash d2 q | exact none1 d2 q | obtain rfl := one1 d2 q | (rw [d2] at q; cases q))) (fun v q => by (first | exact clash d2 q | exact none1 d2 q | obtain rfl := one1 d2 q | (rw [d2] at q; cases q))), cc2, n2, d2⟩⟩
      have pl₃ : PlainL s₃.heap DD #[] := by
        obtain ⟨o, n, e, cc, d0, dd⟩ := pl₁
        exact ⟨o, n, hnf _ _ e (fun es ep q => by (first | exact clash dd q | exact none1 dd q | obtain rfl := one1 dd q | (rw [dd] at q; cases q))) (fun v q => by (first | exact clash dd q | exact none1 dd q | obtain rfl := one1 dd q | (rw [dd] at q; cases q))), cc, d0, dd⟩
      refine wpAny_tests_one ((turn (DD + 1) s₁.heap DD d₁ d₂ (List.mem_of_getElem? hd) F₁ Hc).use (c := { c with env := cenvOf scope c.env (DD + 1) }) F₅ fun s₄ e₄ F₆ => ⟨rfl, vs.size + 1 - (i + 1), turn_lt hlt, i + 1, rfl, hlt, ((hsm.trans ⟨_, _, rfl⟩).trans hs₃).trans e₄.same, ?_, ?_, PlainL_grow F₅.tab e₄.grow pl₃⟩)
      · obtain ⟨⟨o, e, cc, d⟩, ⟨o2, e2, cc2, n2, d2⟩⟩ := st₃
        exact ⟨⟨o, (e₄.grow.1 _ _ hI149 e).nd (fun es ep q => by (first | exact clash d q | exact none1 d q | obtain rfl := one1 d q | (rw [d] at q; cases q))), cc, d⟩, ⟨o2, (e₄.grow.1 _ _ ax149 e2).nd (fun es ep q => by (first | exact clash d2 q | exact none1 d2 q | obtain rfl := one1 d2 q | (rw [d2] at q; cases q))), cc2, n2, d2⟩⟩
      · refine F₆.le ⟨rfl, rfl, rfl, rfl, fun z e hz => ?_⟩
        show ((y, d₂) :: (x, d₁) :: σc).lookup z = some e
        rw [List.lookup_cons]
        cases hzy : z == y with
        | true =>
          obtain rfl : z = y := by simpa using hzy
          (first | exact clash hyc hz | exact none1 hyc hz | obtain rfl := one1 hyc hz | (rw [hyc] at hz; cases hz))
        | false =>
          show ((x, d₁) :: σc).lookup z = some e
          rw [List.lookup_cons]
          cases hzx : z == x with
          | true =>
            obtain rfl : z = x := by simpa using hzx
            (first | exact clash hxc hz | exact none1 hxc hz | obtain rfl := one1 hxc hz | (rw [hxc] at hz; cases hz))
          | false => exact hz
    · have hin : i = vs.size := by omega
      subst hin
      refine W.done s' _ _ hst' fun h₁ tk₁ hk₁ => ?_
      have ku : ∀ b o, b ≠ I → s'.heap.get? b = some o → h₁.get? b = some o := fun b o hb e => hk₁ b o (by simpa using hb) e
      have F₃ := F'.turned iter_ish hIn hI149 ku hIT
      obtain ⟨m, m1, _⟩ := F₃.frame
      refine ⟨m, m1, fun h' hs' => ?_⟩
      obtain ⟨oL, es, ep, eL, dL, _⟩ := id m1
      have zz : s₁.heap.get? (DD + 1) = none := F₃.loc
      have G₁ : Grow b0 s₁.heap h' := ⟨fun b o n e => (F₃.keep b o n e).exact fun o' e' => hs'.extBut b o' (fun q : b = DD + 1 => by (first | exact none2 q zz e | obtain rfl := one2 q zz e | (rw [q, zz] at e; cases e))) e', fun _ => F₃.tab.keepsBut eL (fun vs q => by (first | exact clash dL q | exact none1 dL q | obtain rfl := one1 dL q | (rw [dL] at q; cases q))) hs'.extBut⟩
      refine ⟨e₁.trans ((hsm.trans ⟨h', tk₁, rfl⟩).ext G₁), ?_⟩
      obtain ⟨o, n, e, cc, d0, dd⟩ := plI h₁ ku
      have hDT : DD ∉ S.T := fun q => by obtain ⟨o, e⟩ := F₁.hid _ q; (first | exact clash hD1 e | exact none1 hD1 e | obtain rfl := one1 hD1 e | (rw [hD1] at e; cases e))
      exact .ofList ⟨o, hs'.extBut _ _ (Nat.ne_of_lt (Nat.lt_succ_self DD)) e, cc, n, dd⟩ hDT .nil
  have hst0 : codeAny (model c.prog c.w) c.A (.compLoop (.ListComp elt [⟨.Tuple [.Name x px, .Name y py] tk tp, iter, [t], 0⟩] scope pos) 0 (.ref I) (.ref DD) (cenvOf scope c.env (DD + 1)))
      (compPost (model c.prog c.w) c.A NoE none (fun v s' => Ext b0 s s' ∧ DAt (vw S.T s'.heap) v (.list [])) (.ref DD) (DD + 1)) { s₁ with heap := HH } := loop _ rfl ⟨_, _, rfl⟩
  refine codeAny_compStart_list hst0 (W.self 0 _ _ _ (W.frame _ _ _ ⟨hit2, hl2⟩ fun b hb o e => k04 b o e) hst0)⟩
end

end Mine
/- part B47 -/
namespace Mine
open PySem PySem.W PySem.Calls PyProof.Rows
variable {b0 : Nat}
section
variable {prog : Program} {w : World} {A : Around} {R : Result → Shared → Prop} {s : Shared} {elt t1 t2 i1 i2 : Expr} {scope : Scope} {pos : Pos} {it acc : Value} {env : Env}
theorem compTurn_two (elt t1 t2 i1 i2 : Expr) (scope : Scope) (pos : Pos) (it acc : Value) (env : Env) : compTurn (.ListComp elt [⟨t1, i1, [], 0⟩, ⟨t2, i2, [], 0⟩] scope pos) 0 it acc env = (standAt i1.pos >>= fun _ => pyNext it >>= fun r => match r with
      | none => pure (.done .next)
      | some v => letOwnedTupleGo t1 it v >>= fun _ => assign t1 env v >>= fun _ =>
        eval i2 env >>= fun x => standAt i2.pos >>= fun _ => foldedSetIterable i2 env x >>= fun x => holding [x] (pyIter x) >>= fun it' => runOwn (.compStart (.ListComp elt [⟨t1, i1, [], 0⟩, ⟨t2, i2, [], 0⟩] scope pos) 1 it' acc env) env >>= fun _ =>
          again (.compLoop (.ListComp elt [⟨t1, i1, [], 0⟩, ⟨t2, i2, [], 0⟩] scope pos) 0 it acc env)) := by rfl
theorem compTurn_two1 (elt t1 t2 i1 i2 : Expr) (scope : Scope) (pos : Pos) (it acc : Value) (env : Env) : compTurn (.ListComp elt [⟨t1, i1, [], 0⟩, ⟨t2, i2, [], 0⟩] scope pos) 1 it acc env = (standAt i2.pos >>= fun _ => pyNext it >>= fun r => match r with
      | none => pure (.done .next)
      | some v => letOwnedTupleGo t2 it v >>= fun _ => assign t2 env v >>= fun _ =>
        (eval elt env >>= fun x => call (.builtin "list.append") [acc, x] >>= fun _ => pure ()) >>= fun _ =>
          again (.compLoop (.ListComp elt [⟨t1, i1, [], 0⟩, ⟨t2, i2, [], 0⟩] scope pos) 1 it acc env)) := by rfl
theorem compLoop_two (I : Nat → Shared → Prop)
    (turn : ∀ n s, I n s → wpAny (model prog w) A (pyNext it) (fun r s₁ => match r with
      | none => R (.ok .next) s₁
      | some v => wpAny (model prog w) A (assign t1 env v) (fun _ s₂ => wpAny (model prog w) A (eval i2 env) (fun x s₃ => wpAny (model prog w) A (pyIter x) (fun it' s₄ =>
          codeAny (model prog w) A (.compStart (.ListComp elt [⟨t1, i1, [], 0⟩, ⟨t2, i2, [], 0⟩] scope pos) 1 it' acc env) (fun r s' => (∃ f, r = .ok f) ∧ ∃ m, m < n ∧ I m s') s₄) NoE s₃) NoE s₂) NoE s₁) NoE s)
    (n : Nat) (h : I n s) (ht : ∀ v, letOwnedTupleGo t1 it v = pure () := by intro _; rfl) (hs : ∀ x, foldedSetIterable i2 env x = pure x := by intro _; rfl) :
    codeAny (model prog w) A (.compLoop (.ListComp elt [⟨t1, i1, [], 0⟩, ⟨t2, i2, [], 0⟩] scope pos) 0 it acc env) R s := by
  refine codeAny_loop rfl I (fun n s hI => ?_) n h
  show wpAny _ _ ((compTurn (.ListComp elt [⟨t1, i1, [], 0⟩, ⟨t2, i2, [], 0⟩] scope pos) 0 it acc env).onRaise (fun x => do noteFrame x env; theTreesLotGoes x)) _ _ s
  refine wpAny_noted ?_
  rw [compTurn_two]
  refine wpAny_bind (wpAny_standAt (wpAny_bind (wpAny_mono (turn n s hI) (fun r s₁ h₁ => ?_) fun _ _ z => z.elim)))
  cases r with
  | none => exact wpAny_pure h₁
  | some v =>
    refine wpAny_bind (wpAny_of_eq (ht v) ?_)
    refine wpAny_bind (wpAny_mono h₁ (fun _ s₂ h₂ => ?_) fun _ _ z => z.elim)
    refine wpAny_bind (wpAny_mono h₂ (fun x s₃ h₃ => ?_) fun _ _ z => z.elim)
    refine wpAny_bind (wpAny_standAt (wpAny_bind (wpAny_of_eq (hs x) ?_)))
    refine wpAny_bind (wpAny_holding (wpAny_mono h₃ (fun it' s₄ h₄ => ?_) fun _ _ z => z.elim))
    refine wpAny_bind (wpAny_runOwn (codeAny_mono h₄ fun r s' q => ?_))
    obtain ⟨⟨f, rfl⟩, q⟩ := q
    exact wpAny_pure ⟨rfl, q⟩
theorem compLoop_two1 (I : Nat → Shared → Prop)
    (turn : ∀ n s, I n s → wpAny (model prog w) A (pyNext it) (fun r s₁ => match r with
      | none => R (.ok .next) s₁
      | some v => wpAny (model prog w) A (assign t2 env v) (fun _ s₂ => wpAny (model prog w) A (eval elt env) (fun x s₃ =>
          wpAny (model prog w) A (call (.builtin "list.append") [acc, x]) (fun _ s₄ => ∃ m, m < n ∧ I m s₄) NoE s₃) NoE s₂) NoE s₁) NoE s)
    (n : Nat) (h : I n s) (ht : ∀ v, letOwnedTupleGo t2 it v = pure () := by intro _; rfl) :
    codeAny (model prog w) A (.compLoop (.ListComp elt [⟨t1, i1, [], 0⟩, ⟨t2, i2, [], 0⟩] scope pos) 1 it acc env) R s := by
  refine codeAny_loop rfl I (fun n s hI => ?_) n h
  show wpAny _ _ ((compTurn (.ListComp elt [⟨t1, i1, [], 0⟩, ⟨t2, i2, [], 0⟩] scope pos) 1 it acc env).onRaise (fun x => do noteFrame x env; theTreesLotGoes x)) _ _ s
  refine wpAny_noted ?_
  rw [compTurn_two1]
  refine wpAny_bind (wpAny_standAt (wpAny_bind (wpAny_mono (turn n s hI) (fun r s₁ h₁ => ?_) fun _ _ z => z.elim)))
  cases r with
  | none => exact wpAny_pure h₁
  | some v =>
    refine wpAny_bind (wpAny_of_eq (ht v) ?_)
    exact wpAny_bind (wpAny_mono h₁ (fun _ s₂ h₂ => wpAny_bind (wpAny_bind (wpAny_mono h₂ (fun x s₃ h₃ => wpAny_bind (wpAny_mono h₃
      (fun _ s₄ h₄ => wpAny_pure (wpAny_pure ⟨rfl, h₄⟩)) fun _ _ z => z.elim)) fun _ _ z => z.elim))) fun _ _ z => z.elim)
theorem compStart_one
    (h0 : codeAny (model prog w) A (.compLoop (.ListComp elt [⟨t1, i1, [], 0⟩, ⟨t2, i2, [], 0⟩] scope pos) 1 it acc env) R s)
    (h : wpAny (model prog w) A (pyIter it) (fun it' s' => codeAny (model prog w) A (.compLoop (.ListComp elt [⟨t1, i1, [], 0⟩, ⟨t2, i2, [], 0⟩] scope pos) 1 it' acc env) R s') NoE s) :
    codeAny (model prog w) A (.compStart (.ListComp elt [⟨t1, i1, [], 0⟩, ⟨t2, i2, [], 0⟩] scope pos) 1 it acc env) R s := by
  refine codeAny_of_tree ?_
  show wpAny _ _ ((compStart (.ListComp elt [⟨t1, i1, [], 0⟩, ⟨t2, i2, [], 0⟩] scope pos) 1 it acc env).onRaise (fun x => do noteFrame x env; standAt theWindowsPlace)) _ _ s
  refine wpAny_notedAt ?_
  unfold compStart
  show wpAny _ _ (ask >>= _) _ _ s
  refine wpAny_bind (wpAny_askSetting (wpAny_ite ?_))
  split
  · first
      | exact wpAny_bind (wpAny_pure (wpAny_pure (And.intro rfl h0)))
      | exact wpAny_pure (And.intro rfl h0)
  · first
      | exact wpAny_bind (wpAny_rule (wpAny_bind (wpAny_standAt (wpAny_bind (wpAny_mono h (fun it' s' h' => wpAny_pure (And.intro rfl h')) fun _ _ x => x.elim)))))
      | (refine wpAny_bind (wpAny_rule ?_); show wpAny _ _ (standAt i2.pos >>= _) _ _ s; exact wpAny_bind (wpAny_standAt (wpAny_bind (wpAny_mono h (fun it' s' h' => wpAny_pure (And.intro rfl h')) fun _ _ x => x.elim))))
end

end Mine
/- part B48 -/
namespace Mine
open PySem PySem.W PySem.Calls PyProof.Rows
variable {b0 : Nat}
section
variable {prog : Program} {w : World} {A : Around}
/-- the inner loop: the items of one list are appended -/
theorem inner_loop {env : Env} {S : St} {y : Str} {t1 i1 i2 : Expr} {py ey : Pos} {scope : Scope} {pos : Pos} {DD a I : Addr} {vs ys : Array Value} {s : Shared} {R : Result → Shared → Prop} (H : EnvOk env) (hh : A.handled = none) (F : FS b0 w env S s.heap) (hown : S.own = none) (hyσ : S.σ.lookup y = none)
    (hky : env.kindOf y = some .local) (hdy : (y == ("__debug__" : Str)) = false) (hcy : (y == ("__classdict__" : Str)) = false) (hDT : DD ∈ S.T) (hD0 : S.h₀.get? DD = none) (hDL : DD ≠ env.locals) (hit : s.heap.IsListIter I a 0) (hl : s.heap.IsList a vs) (haT : a ∉ S.T) (hI0 : S.h₀.get? I = none) (hIT : I ∉ S.T) (hpl : PlainL s.heap DD ys) (hz : ys.size + vs.size ≤ 90000) (hds : ∃ ds, DAll (vw S.T s.heap) vs.toList ds)
    (h : ∀ s', Same s s' → FS b0 w env S s'.heap → PlainL s'.heap DD (ys ++ vs) → (∀ b o, b ≠ env.locals → b ≠ DD → b ≠ I → s.heap.get? b = some o → s'.heap.get? b = some o) → R (.ok .next) s') :
    codeAny (model prog w) A (.compLoop (.ListComp (.Name y ey) [⟨t1, i1, [], 0⟩, ⟨.Name y py, i2, [], 0⟩] scope pos) 1 (.ref I) (.ref DD) env) R s := by
  have dI : ∀ h i, Heap.IsListIter h I a i → Iterish h I := fun h i ⟨o, e, cc, d⟩ => ⟨o, _, e, d, by intro q t; simp⟩
  have haD : a ≠ DD := fun q => haT (q ▸ hDT)
  have haI : a ≠ I := fun q => by
    obtain ⟨o, e, _, _, d⟩ := hl
    obtain ⟨o', e', _, d'⟩ := hit
    (first | exact none2 q e' e | obtain rfl := one2 q e' e | (rw [q, e'] at e; cases e)); (first | exact clash d' d | exact none1 d' d | obtain rfl := one1 d' d | (rw [d'] at d; cases d))
  have hDI : DD ≠ I := fun q => hIT (q ▸ hDT)
  have hIL : I ≠ env.locals := fun q => by
    obtain ⟨m, ⟨o, es, ep, e, d, _⟩, _⟩ := F.frame
    obtain ⟨o', e', _, d'⟩ := hit
    (first | exact none2 q e e' | obtain rfl := one2 q e e' | (rw [q, e] at e'; cases e')); (first | exact clash d' d | exact none1 d' d | obtain rfl := one1 d' d | (rw [d'] at d; cases d))
  have haL : a ≠ env.locals := fun q => by
    obtain ⟨m, ⟨o, es, ep, e, d, _⟩, _⟩ := F.frame
    obtain ⟨o', e', _, _, d'⟩ := hl
    (first | exact none2 q e e' | obtain rfl := one2 q e e' | (rw [q, e] at e'; cases e')); (first | exact clash d' d | exact none1 d' d | obtain rfl := one1 d' d | (rw [d'] at d; cases d))
  have hI149 : I ≠ 149 := fun q => by
    obtain ⟨ps, e', _⟩ := F.tab
    obtain ⟨o, e, cc, _⟩ := hit
    (first | exact none2 q e' e | obtain rfl := one2 q e' e | (rw [q, e'] at e; cases e)); cases cc
  have W := Walks.list (prog := prog) (w := w) hh I a haI vs
  refine compLoop_two1 (fun k s' => ∃ j, k = vs.size + 1 - j ∧ j ≤ vs.size ∧ Same s s' ∧ (s'.heap.IsListIter I a j ∧ s'.heap.IsList a vs) ∧ FS b0 w env S s'.heap ∧ (∃ zs : Array Value, PlainL s'.heap DD zs ∧ zs.toList = ys.toList ++ vs.toList.take j) ∧ ∀ b o, b ≠ env.locals → b ≠ DD → b ≠ I → s.heap.get? b = some o → s'.heap.get? b = some o) ?_ (vs.size + 1) ⟨0, rfl, Nat.zero_le _, .refl _, ⟨hit, hl⟩, F, ⟨ys, hpl, by simp⟩, fun _ _ _ _ _ e => e⟩
  rintro k s' ⟨j, rfl, hj, hsm, hst', F', ⟨zs, hzs, hzz⟩, hk⟩
  by_cases hlt : j < vs.size
  · refine W.item j s' _ _ hlt hst' fun v h₁ tk₁ hPv hst₁ hk₁ => ?_
    have ku : ∀ b o, b ≠ I → s'.heap.get? b = some o → h₁.get? b = some o := fun b o hb e => hk₁ b o (by simpa using hb) e
    have F₁ := F'.turned (dI _ _ hst'.1) hI0 hI149 ku hIT
    refine wpAny_assign_Name (wpAny_mono (FS.store (x := y) (s := { s' with heap := h₁, toks := tk₁ }) H F₁ (.data (d := .val v) (.val v) (fun _ _ _ q => by (first | exact clash hown q | exact none1 hown q | obtain rfl := one1 hown q | (rw [hown] at q; cases q)))) (.inl hky)) (fun _ s₃ q₃ => ?_) fun _ _ z => z.elim)
    obtain ⟨hs₃, F₃, hnf, sb⟩ := q₃
    have sb := sb hky
    obtain ⟨m, m1, m2, _⟩ := F₃.frame
    obtain ⟨u, V, Au⟩ := m2 y (.val v) (by show ((y, D.val v) :: S.σ).lookup y = _; exact lk_here)
    cases Au
    refine ev_var H m1 V ?_ hdy hcy
    have pl₁ : PlainL s₃.heap DD zs := by
      obtain ⟨o, n, e, r⟩ := hzs
      exact ⟨o, n, sb.extBut DD o hDL (ku _ _ hDI e), r⟩
    have hsz : zs.size ≤ sizeLine := by
      have h1 : zs.size = ys.size + (vs.toList.take j).length := by
        rw [← Array.length_toList, hzz, List.length_append, Array.length_toList]
      have h2 : (vs.toList.take j).length ≤ vs.size := by rw [List.length_take, Array.length_toList]; omega
      have : (90000 : Nat) ≤ sizeLine := by decide
      omega
    refine list_append_plainL pl₁ (fun h₆ pl₆ hs₆ => ?_) hsz
    obtain ⟨oD, nD, eD, cD, d0D, dD⟩ := id pl₁
    have nf : ∀ vs, oD.data ≠ .fields vs := fun vs q => by (first | exact clash dD q | exact none1 dD q | obtain rfl := one1 dD q | (rw [dD] at q; cases q))
    have F₇ := F₃.changed (h' := h₆) (a := DD) eD hD0 (fun es ep q => by (first | exact clash dD q | exact none1 dD q | obtain rfl := one1 dD q | (rw [dD] at q; cases q))) (fun v q => by (first | exact clash dD q | exact none1 dD q | obtain rfl := one1 dD q | (rw [dD] at q; cases q))) (.inl hDT) hown (F₃.tab.keepsBut eD nf hs₆.extBut) hs₆.extBut (fun _ => by obtain ⟨o, n, e, _⟩ := pl₆; exact ⟨o, e⟩)
    refine ⟨vs.size + 1 - (j + 1), turn_lt hlt, j + 1, rfl, hlt, ((hsm.trans ⟨_, _, rfl⟩).trans hs₃).trans ⟨_, _, rfl⟩, ?_, ?_, ⟨zs.push v, pl₆, ?_⟩, fun b o n1 n2 n3 e => hs₆.extBut b o n2 (sb.extBut b o n1 (ku b o n3 (hk b o n1 n2 n3 e)))⟩
    · obtain ⟨⟨o, e, cc, d⟩, ⟨o2, e2, cc2, n2, d2⟩⟩ := hst₁
      exact ⟨⟨o, hs₆.extBut _ _ (Ne.symm hDI) (sb.extBut _ _ hIL e), cc, d⟩, ⟨o2, hs₆.extBut _ _ haD (sb.extBut _ _ haL e2), cc2, n2, d2⟩⟩
    · refine F₇.le ⟨rfl, rfl, rfl, rfl, fun z e hz => ?_⟩
      show ((y, D.val v) :: S.σ).lookup z = some e
      rw [List.lookup_cons]
      cases hzy : z == y with
      | true =>
        obtain rfl : z = y := by simpa using hzy
        (first | exact clash hyσ hz | exact none1 hyσ hz | obtain rfl := one1 hyσ hz | (rw [hyσ] at hz; cases hz))
      | false => exact hz
    · rw [Array.toList_push, hzz, List.append_assoc]
      have : vs.toList.take (j + 1) = vs.toList.take j ++ [v] := by
        rw [List.take_add_one]
        have : vs.toList[j]? = some v := by simpa using hPv
        rw [this]; rfl
      rw [this]
  · have hin : j = vs.size := by omega
    subst hin
    refine W.done s' _ _ hst' fun h₁ tk₁ hk₁ => ?_
    have ku : ∀ b o, b ≠ I → s'.heap.get? b = some o → h₁.get? b = some o := fun b o hb e => hk₁ b o (by simpa using hb) e
    have F₁ := F'.turned (dI _ _ hst'.1) hI0 hI149 ku hIT
    refine h _ (hsm.trans ⟨_, _, rfl⟩) F₁ ?_ fun b o n1 n2 n3 e => ku b o n3 (hk b o n1 n2 n3 e)
    have hzv : zs = ys ++ vs := by
      apply Array.ext'
      rw [hzz, Array.toList_append, List.take_of_length_le (by simp)]
    subst hzv
    obtain ⟨o, n, e, r⟩ := hzs
    exact ⟨o, n, ku _ _ hDI e, r⟩
end

end Mine
/- part B49 -/
namespace Mine
open PySem PySem.W PySem.Calls PyProof.Rows
variable {b0 : Nat}
section
variable {c : Cx} {S : St}
/-- a comprehension with two sources: the lists' items, one after the other -/
theorem ev_comp_two (H : EnvOk c.env) (hh : c.A.handled = none) {iter : Expr} {x y : Str} {px py ey xi : Pos} {scope : Scope} {pos : Pos} {dss : List (List D)} (K : CompOk c scope)
    (hsrc : Ev b0 c S iter (.list (dss.map D.list)))
    (hx : ∀ C, (cenvOf scope c.env C).kindOf x = some .local) (hy : ∀ C, (cenvOf scope c.env C).kindOf y = some .local) (hxy : (y == x) = false)
    (hdx : (x == ("__debug__" : Str)) = false) (hcx : (x == ("__classdict__" : Str)) = false) (hdy : (y == ("__debug__" : Str)) = false) (hcy : (y == ("__classdict__" : Str)) = false) (hz : dss.flatten.length ≤ 90000)
    (hs : ∀ y, foldedSetIterable iter c.env y = pure y := by intro _; rfl) :
    Ev b0 c S (.ListComp (.Name y ey) [⟨.Name x px, iter, [], 0⟩, ⟨.Name y py, .Name x xi, [], 0⟩] scope pos) (.list dss.flatten) := ⟨fun s F => by
  rw [eval_ListComp]
  refine wpAny_comprehension_free (cl := clOf c.env scope.names []) rfl hs (closure_of K.free) K.kind K.names (hsrc.use F fun v s₁ e₁ F₁ A₁ => ?_)
  obtain ⟨ax, vs, rfl, eg, hl, r⟩ := A₁.isList vw_le
  refine wpAny_pyIter_list hl ?_
  generalize hIe : s₁.heap.objs.size = I
  generalize hHe : s₁.heap.push { cls := .type "list_iterator", data := .fields #[.ref ax, .int 0 0] } = H2
  have e₂ : Ext b0 s₁ { s₁ with heap := H2 } := hHe ▸ Ext.push _
  have hIn : s₁.heap.get? I = none := hIe ▸ fresh_none _
  have hI149 : I ≠ 149 := hIe ▸ fresh_149 F₁.tab
  have hit2 : H2.IsListIter I ax 0 := by
    rw [← hHe, ← hIe]
    exact ⟨_, Heap.get?_push_size _ rfl, rfl, rfl⟩
  have hl2 : H2.IsList ax vs := by rw [← hHe]; exact hl.push _
  have F₂ := F₁.ext e₂
  obtain ⟨Hc, Fc⟩ := comp_start (σc := ([] : List (Str × D))) H K (fun y d q => by cases q) e₂.grow F₁
  refine wpAny_newObj_type (newEnv_around ?_) (by size_fits)
  have s1 : (H2.push { cls := .type "list", data := .seq #[] }).objs.size = H2.objs.size + 1 := Heap.size_push ..
  dsimp only
  rw [show ([] : List Value).toArray = #[] from rfl, s1]
  have hD0 : (pushCells ((H2.push { cls := .type "list", data := .seq #[] }).push { cls := .type "dict", data := .dict #[] }) scope.names).get? H2.objs.size = some { cls := .type "list", data := .seq #[] } :=
    pushCells_keeps _ _ _ _ (Heap.get?_push_of_some _ (Heap.get?_push_size _ rfl))
  have k04 : ∀ b o, H2.get? b = some o → (pushCells ((H2.push { cls := .type "list", data := .seq #[] }).push { cls := .type "dict", data := .dict #[] }) scope.names).get? b = some o := fun b o e =>
    pushCells_keeps _ _ _ _ (Heap.get?_push_of_some _ (Heap.get?_push_of_some _ e))
  dsimp only at Fc
  generalize hHH : pushCells ((H2.push { cls := .type "list", data := .seq #[] }).push { cls := .type "dict", data := .dict #[] }) scope.names = HH at Fc hD0 k04 ⊢
  dsimp only at Hc
  generalize hDD : H2.objs.size = DD at Fc Hc hD0 ⊢
  have hD1 : s₁.heap.get? DD = none := grow_fresh F₂.tab e₂.grow (Nat.le_of_eq hDD)
  have hID : I ≠ DD := fun q => by obtain ⟨o, e, _⟩ := hit2; rw [q, ← hDD, fresh_none] at e; cases e
  have hIT : I ∉ DD :: S.T := fun q => by
    rcases List.mem_cons.mp q with q | q
    · exact hID q
    · obtain ⟨o, e⟩ := F₁.hid I q; (first | exact clash hIn e | exact none1 hIn e | obtain rfl := one1 hIn e | (rw [hIn] at e; cases e))
  have haxI : ax ≠ I := fun q => by obtain ⟨o, e, _⟩ := hl; (first | exact none2 q hIn e | obtain rfl := one2 q hIn e | (rw [q, hIn] at e; cases e))
  have ax149 : ax ≠ 149 := fun q => by
    obtain ⟨ps, e', _⟩ := F₁.tab
    obtain ⟨o, e, _, n, d⟩ := hl
    (first | exact none2 q e' e | obtain rfl := one2 q e' e | (rw [q, e'] at e; cases e)); cases d
  have up : ∀ (S' : St) h, S'.h₀ = s₁.heap → FS b0 c.w (cenvOf scope c.env (DD + 1)) S' h → Sub (vw S.T s₁.heap) (vw (DD :: S.T) h) := fun S' h e0 F' b ob e hc hd => by
    unfold vw at e ⊢
    split at e
    · cases e
    · rename_i hbT
      rw [if_neg]
      · obtain ⟨vs, n, hd⟩ := hd
        refine (F'.keep b ob (fun q => ?_) (by rw [e0]; exact e)).nd fun es ep q => by (first | exact clash hd q | exact none1 hd q | obtain rfl := one1 hd q | (rw [hd] at q; cases q))
        subst q
        obtain ⟨ps, t1, _⟩ := F₁.tab
        (first | exact clash e t1 | exact none1 e t1 | obtain rfl := one1 e t1 | (rw [e] at t1; cases t1)); cases hd
      · intro q
        rcases List.mem_cons.mp q with rfl | q
        · (first | exact clash hD1 e | exact none1 hD1 e | obtain rfl := one1 hD1 e | (rw [hD1] at e; cases e))
        · exact hbT q
  have hlen : vs.size = dss.length := by have := r.length; simpa using this
  have W := Walks.list (prog := c.prog) (w := c.w) hh I ax haxI vs
  have loop : ∀ s' : Shared, s'.heap = HH → Same s₁ s' → codeAny (model c.prog c.w) c.A (.compLoop (.ListComp (.Name y ey) [⟨.Name x px, iter, [], 0⟩, ⟨.Name y py, .Name x xi, [], 0⟩] scope pos) 0 (.ref I) (.ref DD) (cenvOf scope c.env (DD + 1)))
      (compPost (model c.prog c.w) c.A NoE none (fun v s' => Ext b0 s s' ∧ DAt (vw S.T s'.heap) v (.list dss.flatten)) (.ref DD) (DD + 1)) s' := fun s' hs' hsm => by
    refine compLoop_two (fun k s' => ∃ i, k = vs.size + 1 - i ∧ i ≤ vs.size ∧ Same s₁ s' ∧ (s'.heap.IsListIter I ax i ∧ s'.heap.IsList ax vs) ∧ FS b0 c.w (cenvOf scope c.env (DD + 1)) { h₀ := s₁.heap, T₀ := S.T, T := DD :: S.T, σ := [], own := none } s'.heap ∧ ∃ ys : Array Value, PlainL s'.heap DD ys ∧ DAll (vw (DD :: S.T) s'.heap) ys.toList (dss.take i).flatten) ?_ (vs.size + 1) ⟨0, rfl, Nat.zero_le _, hsm, ?_, hs' ▸ Fc, #[], ?_, .nil⟩
    rotate_left
    · rw [hs']
      exact W.frame _ _ _ ⟨hit2, hl2⟩ fun b hb o e => k04 b o e
    · rw [hs']
      exact ⟨_, 0, hD0, rfl, rfl, rfl⟩
    rintro k s' ⟨i, rfl, hi, hsm, hst', F', ys, hpl, hall⟩
    have iter_ish : Iterish s'.heap I := by obtain ⟨⟨o, e, cc, d⟩, _⟩ := hst'; exact ⟨o, _, e, d, by intro q t; simp⟩
    have plI : ∀ h₁ : Heap, (∀ b o, b ≠ I → s'.heap.get? b = some o → h₁.get? b = some o) → PlainL h₁ DD ys := fun h₁ ku => by
      obtain ⟨o, n, e, r⟩ := hpl
      exact ⟨o, n, ku _ _ (Ne.symm hID) e, r⟩
    have vsI : ∀ h₁ : Heap, (∀ b o, b ≠ I → s'.heap.get? b = some o → h₁.get? b = some o) → Sub (vw (DD :: S.T) s'.heap) (vw (DD :: S.T) h₁) := fun h₁ ku => by
      obtain ⟨oI, vI, eI, dI, qI⟩ := iter_ish
      exact vw_but ku eI (.inr fun vs n q => by (first | exact clash dI q | exact none1 dI q | obtain rfl := one1 dI q | (rw [dI] at q; cases q)))
    by_cases hlt : i < vs.size
    · refine W.item i s' _ _ hlt hst' fun v h₁ tk₁ hPv hst₁ hk₁ => ?_
      obtain ⟨d, hd, Ad⟩ := r.get (i := i) (v := v) (by simpa using hPv)
      have hi2 : i < dss.length := by omega
      obtain rfl : d = .list dss[i] := by simp [hi2] at hd; exact hd.symm
      have ku : ∀ b o, b ≠ I → s'.heap.get? b = some o → h₁.get? b = some o := fun b o hb e => hk₁ b o (by simpa using hb) e
      have F₃ := F'.turned iter_ish hIn hI149 ku hIT
      have Av : DAt (vw (DD :: S.T) h₁) v (.list dss[i]) := Ad.mono (up _ _ rfl F₃)
      have pl₁ := plI h₁ ku
      have all₁ := hall.mono (vsI h₁ ku)
      refine wpAny_assign_Name (wpAny_mono (FS.store (x := x) (s := { s' with heap := h₁, toks := tk₁ }) Hc F₃ (.data (d := .val v) (.val v) (fun _ _ _ q => by cases q)) (.inl (hx _))) (fun _ s₃ q₃ => ?_) fun _ _ z => z.elim)
      obtain ⟨hs₃, F₄, hnf, sb⟩ := q₃
      have F₅ : FS b0 c.w (cenvOf scope c.env (DD + 1)) { h₀ := s₁.heap, T₀ := S.T, T := DD :: S.T, σ := [(x, .val v)], own := none } s₃.heap := F₄
      have vs3 : Sub (vw (DD :: S.T) h₁) (vw (DD :: S.T) s₃.heap) := fun b ob e hc hd => by
        unfold vw at e ⊢
        split at e
        · cases e
        · rename_i hb
          rw [if_neg hb]
          obtain ⟨vs, n, hd⟩ := hd
          exact hnf _ _ e (fun es ep q => by (first | exact clash hd q | exact none1 hd q | obtain rfl := one1 hd q | (rw [hd] at q; cases q))) fun v q => by (first | exact clash hd q | exact none1 hd q | obtain rfl := one1 hd q | (rw [hd] at q; cases q))
      have st₃ : s₃.heap.IsListIter I ax (i + 1) ∧ s₃.heap.IsList ax vs := by
        obtain ⟨⟨o, e, cc, d⟩, ⟨o2, e2, cc2, n2, d2⟩⟩ := hst₁
        exact ⟨⟨o, hnf _ _ e (fun es ep q => by (first | exact clash d q | exact none1 d q | obtain rfl := one1 d q | (rw [d] at q; cases q))) (fun v q => by (first | exact clash d q | exact none1 d q | obtain rfl := one1 d q | (rw [d] at q; cases q))), cc, d⟩, ⟨o2, hnf _ _ e2 (fun es ep q => by (first | exact clash d2 q | exact none1 d2 q | obtain rfl := one1 d2 q | (rw [d2] at q; cases q))) (fun v q => by (first | exact clash d2 q | exact none1 d2 q | obtain rfl := one1 d2 q | (rw [d2] at q; cases q))), cc2, n2, d2⟩⟩
      have pl₃ : PlainL s₃.heap DD ys := by
        obtain ⟨o, n, e, cc, d0, dd⟩ := pl₁
        exact ⟨o, n, hnf _ _ e (fun es ep q => by (first | exact clash dd q | exact none1 dd q | obtain rfl := one1 dd q | (rw [dd] at q; cases q))) (fun v q => by (first | exact clash dd q | exact none1 dd q | obtain rfl := one1 dd q | (rw [dd] at q; cases q))), cc, d0, dd⟩
      have all₃ := all₁.mono vs3
      have A₃ := Av.mono vs3
      obtain ⟨m, m1, m2, _⟩ := F₅.frame
      obtain ⟨u, V, Au⟩ := m2 x (.val v) lk_here
      cases Au
      refine ev_var Hc m1 V ?_ hdx hcx
      obtain ⟨a, us, rfl, eg3, hl3, r3⟩ := A₃.isList vw_le
      have haT : a ∉ DD :: S.T := fun q => by
        obtain ⟨o, e, _⟩ := hl3
        unfold vw at eg3
        (first | exact none2 (if_pos q) e eg3 | obtain rfl := one2 (if_pos q) e eg3 | (rw [if_pos q, e] at eg3; cases eg3))
      refine wpAny_pyIter_list hl3 ?_
      generalize hI2e : s₃.heap.objs.size = I2
      generalize hH4 : s₃.heap.push { cls := .type "list_iterator", data := .fields #[.ref a, .int 0 0] } = H4
      have hI2n : s₃.heap.get? I2 = none := hI2e ▸ fresh_none _
      have e₄ : Ext b0 s₃ { s₃ with heap := H4 } := hH4 ▸ Ext.push _
      have kp4 : ∀ b o, s₃.heap.get? b = some o → H4.get? b = some o := fun b o e => hH4 ▸ Heap.get?_push_of_some _ e
      have it4 : H4.IsListIter I2 a 0 := by
        rw [← hH4, ← hI2e]
        exact ⟨_, Heap.get?_push_size _ rfl, rfl, rfl⟩
      have F₆ := F₅.ext e₄
      have hI2T : I2 ∉ DD :: S.T := fun q => by obtain ⟨o, e⟩ := F₅.hid _ q; (first | exact clash hI2n e | exact none1 hI2n e | obtain rfl := one1 hI2n e | (rw [hI2n] at e; cases e))
      have hI20 : s₁.heap.get? I2 = none := by
        cases q : s₁.heap.get? I2 with
        | none => rfl
        | some o =>
          obtain ⟨_, e⟩ := (F₅.keep I2 o (fun q' => by obtain ⟨ps, e', _⟩ := F₅.tab; rw [← q', hI2n] at e'; cases e') q).there
          (first | exact clash hI2n e | exact none1 hI2n e | obtain rfl := one1 hI2n e | (rw [hI2n] at e; cases e))
      have ha3 : a ≠ I2 := fun q => by obtain ⟨o, e, _⟩ := hl3; (first | exact none2 q hI2n e | obtain rfl := one2 q hI2n e | (rw [q, hI2n] at e; cases e))
      have hflat : (dss.take (i + 1)).flatten = (dss.take i).flatten ++ dss[i] := by
        rw [List.take_add_one, List.getElem?_eq_getElem hi2, List.flatten_append]
        simp
      have hzz : ys.size + us.size ≤ 90000 := by
        have h1 := all₃.length
        have h2 := r3.length
        have h3 : (dss.take (i + 1)).flatten.length ≤ dss.flatten.length := by
          conv => rhs; rw [← List.take_append_drop (i + 1) dss]
          rw [List.flatten_append, List.length_append]; omega
        rw [hflat, List.length_append] at h3
        simp only [Array.length_toList] at h1 h2
        omega
      have go : ∀ s₄ : Shared, s₄ = { s₃ with heap := H4 } → codeAny (model c.prog c.w) c.A (.compLoop (.ListComp (.Name y ey) [⟨.Name x px, iter, [], 0⟩, ⟨.Name y py, .Name x xi, [], 0⟩] scope pos) 1 (.ref I2) (.ref DD) (cenvOf scope c.env (DD + 1))) (fun r s' => (∃ f, r = .ok f) ∧ ∃ m, m < vs.size + 1 - i ∧ ∃ i, m = vs.size + 1 - i ∧ i ≤ vs.size ∧ Same s₁ s' ∧ (s'.heap.IsListIter I ax i ∧ s'.heap.IsList ax vs) ∧ FS b0 c.w (cenvOf scope c.env (DD + 1)) { h₀ := s₁.heap, T₀ := S.T, T := DD :: S.T, σ := [], own := none } s'.heap ∧ ∃ ys : Array Value, PlainL s'.heap DD ys ∧ DAll (vw (DD :: S.T) s'.heap) ys.toList (dss.take i).flatten) s₄ := by
        rintro s₄ rfl
        refine inner_loop (a := a) (vs := us) (ys := ys) Hc hh F₆ rfl (by show ([(x, D.val (Value.ref a))] : List (Str × D)).lookup y = none; rw [List.lookup_cons, hxy]; rfl) (hy _) hdy hcy (List.mem_cons_self ..) hD1 (Nat.ne_of_lt (Nat.lt_succ_self DD)) it4 ?_ haT hI20 hI2T ?_ hzz ⟨_, r3.mono (vw_sub F₅.tab e₄.grow)⟩ fun s₅ hs₅ F₇ pl₇ k₇ => ?_
        · obtain ⟨o, e, rr⟩ := hl3
          exact ⟨o, kp4 _ _ e, rr⟩
        · obtain ⟨o, n, e, rr⟩ := pl₃
          exact ⟨o, n, kp4 _ _ e, rr⟩
        · have keep : ∀ b o, s₃.heap.get? b = some o → b ≠ DD + 1 → b ≠ DD → s₅.heap.get? b = some o := fun b o e n1 n2 => k₇ b o n1 n2 (fun q => by (first | exact none2 q hI2n e | obtain rfl := one2 q hI2n e | (rw [q, hI2n] at e; cases e))) (kp4 b o e)
          obtain ⟨oL, es, ep, eL, dL, _⟩ := id m1
          have vs5 : Sub (vw (DD :: S.T) s₃.heap) (vw (DD :: S.T) s₅.heap) := fun b ob e hc hd => by
            unfold vw at e ⊢
            split at e
            · cases e
            · rename_i hb
              rw [if_neg hb]
              obtain ⟨vs, n, hd⟩ := hd
              exact keep b ob e (fun q => by
                have eL : s₃.heap.get? (DD + 1) = some oL := eL
                (first | exact none2 q eL e | obtain rfl := one2 q eL e | (rw [q, eL] at e; cases e)); (first | exact clash dL hd | exact none1 dL hd | obtain rfl := one1 dL hd | (rw [dL] at hd; cases hd))) fun q => hb (q ▸ List.mem_cons_self ..)
          have hIL : I ≠ DD + 1 := fun q => by
            obtain ⟨⟨o, e, cc, d⟩, _⟩ := st₃
            have eL : s₃.heap.get? (DD + 1) = some oL := eL
            (first | exact none2 q eL e | obtain rfl := one2 q eL e | (rw [q, eL] at e; cases e)); (first | exact clash dL d | exact none1 dL d | obtain rfl := one1 dL d | (rw [dL] at d; cases d))
          have haxL : ax ≠ DD + 1 := fun q => by
            obtain ⟨_, ⟨o, e, cc, n, d⟩⟩ := st₃
            have eL : s₃.heap.get? (DD + 1) = some oL := eL
            (first | exact none2 q eL e | obtain rfl := one2 q eL e | (rw [q, eL] at e; cases e)); (first | exact clash dL d | exact none1 dL d | obtain rfl := one1 dL d | (rw [dL] at d; cases d))
          have haxD : ax ≠ DD := fun q => by
            obtain ⟨o, e, _⟩ := hl
            (first | exact none2 q hD1 e | obtain rfl := one2 q hD1 e | (rw [q, hD1] at e; cases e))
          refine ⟨⟨_, rfl⟩, vs.size + 1 - (i + 1), turn_lt hlt, i + 1, rfl, hlt, (((hsm.trans ⟨_, _, rfl⟩).trans hs₃).trans ⟨_, _, rfl⟩).trans hs₅, ?_, ?_, ys ++ us, pl₇, ?_⟩
          · obtain ⟨⟨o, e, cc, d⟩, ⟨o2, e2, cc2, n2, d2⟩⟩ := st₃
            exact ⟨⟨o, keep _ _ e hIL hID, cc, d⟩, ⟨o2, keep _ _ e2 haxL haxD, cc2, n2, d2⟩⟩
          · exact F₇.le ⟨rfl, rfl, rfl, rfl, fun z e hz => by cases hz⟩
          · rw [Array.toList_append, hflat]
            exact (all₃.mono vs5).append (r3.mono vs5)
      have W2 := Walks.list (prog := c.prog) (w := c.w) hh I2 a ha3 us
      refine compStart_one (go _ rfl) (W2.self 0 _ _ _ ⟨it4, ?_⟩ (go _ rfl))
      obtain ⟨o, e, rr⟩ := hl3
      exact ⟨o, kp4 _ _ e, rr⟩
    · have hin : i = vs.size := by omega
      subst hin
      refine W.done s' _ _ hst' fun h₁ tk₁ hk₁ => ?_
      have ku : ∀ b o, b ≠ I → s'.heap.get? b = some o → h₁.get? b = some o := fun b o hb e => hk₁ b o (by simpa using hb) e
      have F₃ := F'.turned iter_ish hIn hI149 ku hIT
      obtain ⟨m, m1, _⟩ := F₃.frame
      refine ⟨m, m1, fun h' hs' => ?_⟩
      obtain ⟨oL, es, ep, eL, dL, _⟩ := id m1
      have zz : s₁.heap.get? (DD + 1) = none := F₃.loc
      have G₁ : Grow b0 s₁.heap h' := ⟨fun b o n e => (F₃.keep b o n e).exact fun o' e' => hs'.extBut b o' (fun q : b = DD + 1 => by (first | exact none2 q zz e | obtain rfl := one2 q zz e | (rw [q, zz] at e; cases e))) e', fun _ => F₃.tab.keepsBut eL (fun vs q => by (first | exact clash dL q | exact none1 dL q | obtain rfl := one1 dL q | (rw [dL] at q; cases q))) hs'.extBut⟩
      refine ⟨e₁.trans ((hsm.trans ⟨h', tk₁, rfl⟩).ext G₁), ?_⟩
      have all₁ := (hall.mono (vsI h₁ ku)).mono (vw_but hs'.extBut eL (.inr fun vs n q => by (first | exact clash dL q | exact none1 dL q | obtain rfl := one1 dL q | (rw [dL] at q; cases q))))
      rw [hlen, List.take_length] at all₁
      obtain ⟨o, n, e, cc, d0, dd⟩ := plI h₁ ku
      have hDT : DD ∉ S.T := fun q => by obtain ⟨o, e⟩ := F₁.hid _ q; (first | exact clash hD1 e | exact none1 hD1 e | obtain rfl := one1 hD1 e | (rw [hD1] at e; cases e))
      exact .ofList ⟨o, hs'.extBut _ _ (Nat.ne_of_lt (Nat.lt_succ_self DD)) e, cc, n, dd⟩ hDT (all₁.mono (vw_less fun a ha => List.mem_cons_of_mem _ ha))
  have hst0 : codeAny (model c.prog c.w) c.A (.compLoop (.ListComp (.Name y ey) [⟨.Name x px, iter, [], 0⟩, ⟨.Name y py, .Name x xi, [], 0⟩] scope pos) 0 (.ref I) (.ref DD) (cenvOf scope c.env (DD + 1)))
      (compPost (model c.prog c.w) c.A NoE none (fun v s' => Ext b0 s s' ∧ DAt (vw S.T s'.heap) v (.list dss.flatten)) (.ref DD) (DD + 1)) { s₁ with heap := HH } := loop _ rfl ⟨_, _, rfl⟩
  refine codeAny_compStart_list hst0 (W.self 0 _ _ _ (W.frame _ _ _ ⟨hit2, hl2⟩ fun b hb o e => k04 b o e) hst0)⟩
end

end Mine
/- part B50 -/
namespace Mine
open PySem PySem.W PySem.Calls PyProof.Rows
variable {b0 : Nat}
section
variable {c : Cx} {S : St} {o : Out} {rest : List Stmt} {ks : List (List Stmt)}
/-- _law_read called -/
theorem ev_law_read {b : Array UInt8} {e : Expr} {p pos : Pos} {outer : List Env} (hz : b.size ≤ 20000) (H : EnvOk c.env) (R : Room 4 c.A) (hA : c.A.frames = some outer) (hfr : ∀ h, FS b0 c.w c.env S h → Frames b0 h outer ∧ b0 ≤ h.objs.size) (hk : c.env.kindOf "_law_read" = some .globalImplicit)
    (he : Ev b0 c S e (.bytes b)) (hs : ([e].all fun e => !isStarred e) = true := by rfl) (hst : starEach [e] c.env = (false, eval e c.env) :: starEach [] c.env := by rfl) :
    Ev b0 c S (.Call (.Name "_law_read" p) [e] [] pos) (readD b) := ⟨fun s F => by
  obtain ⟨oc, od, fd, osl, hK⟩ : ∃ oc od fd osl, (frag c.w.params).lookup 161 = some ⟨oc, od, .func fd, osl⟩ := ⟨_, _, _, _, rfl⟩
  exact Call_ (g_read.go _ _ _ _ _ _ _ H hk F.wd (callWith_def (o := ⟨oc, od, .func fd, osl⟩) rfl ((EvAll.cons he .nil).use hs F fun vs s₁ e₁ F₁ A₁ => ⟨F₁.wd.obj hK, wpAny_call (codeAny_mono (law_read hz R hA (hfr _ F₁).1 F₁.wd F₁.hid A₁ (hfr _ F₁).2) fun res s₂ q => by
    obtain ⟨v, rfl, e₂, d⟩ := q
    exact ⟨e₁.trans e₂, d⟩)⟩) hst))⟩
theorem all_of {g : Vw} : ∀ {vs : List Value} {ds : List D}, vs.length = ds.length → (∀ (i : Nat) v d, vs[i]? = some v → ds[i]? = some d → DAt g v d) → DAll g vs ds
  | [], [], _, _ => .nil
  | v :: vs, d :: ds, hl, h => .cons (h 0 v d rfl rfl) (all_of (by simpa using hl) fun i v d a b => h (i + 1) v d (by simpa using a) (by simpa using b))
  | [], _ :: _, hl, _ => by cases hl
  | _ :: _, [], hl, _ => by cases hl
/-- a range's list -/
theorem ev_list_range (H : EnvOk c.env) (hh : c.A.handled = none) (hkl : c.env.kindOf "list" = some .globalImplicit) (hk : c.env.kindOf "range" = some .globalImplicit) {e e' : Expr} {lp lpos p pos : Pos} {a b : Int} {n : Nat} (he : Ev b0 c S e (.int a)) (he' : Ev b0 c S e' (.int b)) (hb : 0 ≤ a ∧ a ≤ b ∧ b < 2 ^ 40) (hn : b - a = (n : Int)) (hz : n ≤ 1000)
    (hst : starEach [e, e'] c.env = [(false, eval e c.env), (false, eval e' c.env)] := by rfl) (hst1 : starEach [.Call (.Name "range" p) [e, e'] [] pos] c.env = [(false, eval (.Call (.Name "range" p) [e, e'] [] pos) c.env)] := by rfl) :
    Ev b0 c S (.Call (.Name "list" lp) [.Call (.Name "range" p) [e, e'] [] pos] [] lpos) (.list (rangeD a 1 n)) := ⟨fun s F =>
  Call_Name1 (g_list.go _ _ _ _ _ _ _ H hkl F.wd (PyProof.Rows.callWith_type rfl (Calls.evalArgs_plain (Calls.spliced_cons (Call_Name2 (g_range.go _ _ _ _ _ _ _ H hk F.wd (PyProof.Rows.callWith_type rfl (Calls.evalArgs_plain (Calls.spliced_cons (he.use F fun v s₁ e₁ F₁ A₁ => Calls.spliced_cons (he'.use F₁ fun v' s₂ e₂ F₂ A₂ => Calls.spliced_nil (by
    cases A₁ with
    | int _ tk =>
      cases A₂ with
      | int _ tk' =>
        refine call_range_2 ?_
        have e3 : Ext b0 s₂ { s₂ with heap := s₂.heap.push { cls := .type "range", data := .fields #[.int a tk, .int b tk', .int 1 s₂.toks] }, toks := s₂.toks + 1 } := Ext.push _
        have F₃ := F₂.ext e3
        refine Calls.spliced_nil (call_list_range (n := n) hh (IsRange.new s₂.heap a b 1 tk tk' s₂.toks) (small_one (by omega) (by omega) (by omega) (by omega)) (by rw [rangeSize_nat]; omega) (by omega) fun h' tk2 acc' c' kk hS hacc => ?_)
        have e4 : Ext b0 { s₂ with heap := s₂.heap.push { cls := .type "range", data := .fields #[.int a tk, .int b tk', .int 1 s₂.toks] }, toks := s₂.toks + 1 } { s₂ with heap := h', toks := tk2 } := .of kk
        refine ⟨((e₁.trans e₂).trans e3).trans e4, .ofList ⟨_, hS, rfl, c', rfl⟩ (not_hid F₃.hid (Nat.le_refl _)) (all_of ?_ fun i v d hv hd => ?_)⟩
        · rw [Array.length_toList, hacc.1]; simp [rangeD, rangeInts]
        · obtain ⟨tt, rfl⟩ := hacc.2 i v (by simpa using hv)
          have : d = .int (a + i * 1) := by
            unfold rangeD rangeInts at hd
            simp at hd
            obtain ⟨x, hx, hd⟩ := hd
            rw [List.getElem?_eq_some_iff] at hx
            obtain ⟨_, hx⟩ := hx
            simp at hx
            rw [← hd, ← hx]; simp
          subst this
          exact .int _ _))))))) hst)))))⟩
end

end Mine
/- part L4 -/
namespace Mine
open PySem PySem.W PySem.Calls PyProof.Rows
variable {b0 : Nat}
def tapeN (os : List Ord) : List Nat := os.length :: (os.map cells).flatten
def tapeB (os : List Ord) : Array UInt8 := ((tapeN os).map (·.toUInt8)).toArray
theorem cells_lt {o : Ord} (h : o.ok) : ∀ x ∈ cells o, x < 256 := by
  intro x hx
  cases o with
  | txt t =>
    obtain ⟨h1, h2⟩ := h
    simp only [cells, List.mem_cons] at hx
    rcases hx with rfl | rfl | hx
    · decide
    · omega
    · exact h2 x hx
  | oct b =>
    have h : b.size ≤ 255 := h
    simp only [cells, List.mem_cons, List.mem_map] at hx
    rcases hx with rfl | rfl | ⟨y, _, rfl⟩
    · decide
    · omega
    · exact UInt8.toNat_lt y
  | num n =>
    have h : n < 256 := h
    simp only [cells, List.mem_cons, List.not_mem_nil, or_false] at hx
    rcases hx with rfl | rfl <;> omega
  | op k =>
    simp only [cells, List.mem_cons, List.not_mem_nil, or_false] at hx
    rcases h with rfl | rfl | rfl <;> omega
theorem cells_len {o : Ord} (h : o.ok) : (cells o).length ≤ 257 := by
  cases o with
  | txt t => have := h.1; simp [cells, Str.length] at this ⊢; omega
  | oct b => have h : b.size ≤ 255 := h; simp [cells]; omega
  | num n => simp [cells]
  | op k => simp [cells]
theorem flat_lt {os : List Ord} (h : ∀ o ∈ os, o.ok) : ∀ x ∈ (os.map cells).flatten, x < 256 := fun x hx => by
  obtain ⟨l, hl, hx⟩ := List.mem_flatten.mp hx
  obtain ⟨o, ho, rfl⟩ := List.mem_map.mp hl
  exact cells_lt (h o ho) x hx
theorem flat_len : ∀ {os : List Ord}, (∀ o ∈ os, o.ok) → (os.map cells).flatten.length ≤ 257 * os.length
  | [], _ => by simp
  | o :: os, h => by
    have := flat_len (os := os) fun x hx => h x (by simp [hx])
    have := cells_len (h o (by simp))
    rw [List.map_cons, List.flatten_cons, List.length_append, List.length_cons]; omega
theorem tapeN_lt {os : List Ord} (h : ∀ o ∈ os, o.ok) (hn : os.length ≤ 14) : ∀ x ∈ tapeN os, x < 256 := fun x hx => by
  unfold tapeN at hx
  rcases List.mem_cons.mp hx with rfl | hx
  · omega
  · exact flat_lt h x hx
theorem tapeN_len {os : List Ord} (h : ∀ o ∈ os, o.ok) (hn : os.length ≤ 14) : (tapeN os).length ≤ 3600 := by
  have := flat_len h
  unfold tapeN
  rw [List.length_cons]; omega
theorem tapeB_list {os : List Ord} (h : ∀ o ∈ os, o.ok) (hn : os.length ≤ 14) : (tapeB os).toList.map (·.toNat) = tapeN os := by
  unfold tapeB
  rw [List.toList_toArray]
  exact map_u8 _ (tapeN_lt h hn)
theorem tapeB_size (os : List Ord) : (tapeB os).size = (tapeN os).length := by simp [tapeB]
theorem tapeB_arr (os : List Ord) : byteArr ((tapeN os).map fun n : Nat => (n : Int)) = tapeB os := by
  unfold byteArr tapeB
  rw [List.map_map]; rfl
theorem flatB (os : List Ord) : (os.map cellsB).flatten = ((os.map cells).flatten).map (·.toUInt8) := by
  rw [List.map_flatten, List.map_map]; rfl
theorem tapeB_cons (os : List Ord) : (tapeB os).toList = os.length.toUInt8 :: (os.map cellsB).flatten := by
  unfold tapeB tapeN
  rw [List.toList_toArray, List.map_cons, flatB]
/-- the end of so many orders -/
def endAt (os : List Ord) (s : Nat) : Nat := 1 + ((os.take s).map fun o => (cells o).length).sum
theorem ends_count : ∀ (os : List Ord) (k : Nat), ((List.range (os.length + 1)).filter fun s => decide (((os.take s).map fun o => (cells o).length).sum ≤ k)).length = wholes os k + 1
  | [], k => by simp [wholes]
  | o :: os, k => by
    have ih := ends_count os (k - (cells o).length)
    have hl : (cellsB o).length = (cells o).length := by simp [cellsB]
    rw [List.length_cons, List.range_succ_eq_map, List.filter_cons]
    simp only [List.take_zero, List.map_nil, List.sum_nil, Nat.zero_le, decide_true, if_true, List.length_cons]
    rw [List.filter_map, List.length_map]
    unfold wholes
    rw [hl]
    by_cases hk : (cells o).length ≤ k
    · rw [if_pos hk, ← ih]
      congr 2
      apply List.filter_congr
      intro s _
      simp only [Function.comp_apply, Nat.succ_eq_add_one, List.take_succ_cons, List.map_cons, List.sum_cons, decide_eq_decide]
      omega
    · rw [if_neg hk]
      rw [List.filter_eq_nil_iff.mpr]
      · rfl
      · intro s _
        simp only [Function.comp_apply, Nat.succ_eq_add_one, List.take_succ_cons, List.map_cons, List.sum_cons, decide_eq_true_eq]
        omega
theorem ends_count' (os : List Ord) (c : Nat) (hc : 0 < c) : ((List.range (os.length + 1)).filter fun s => decide (endAt os s ≤ c)).length = wholes os (c - 1) + 1 := by
  rw [← ends_count]
  congr 1
  apply List.filter_congr
  intro s _
  unfold endAt
  rw [decide_eq_decide]; omega
/-- what is read of the tape cut somewhere -/
theorem readAll_cut {os : List Ord} (h : ∀ o ∈ os, o.ok) (hn : os.length ≤ 14) (c : Nat) : readAll (((tapeB os).toList.take c).toArray) = ((if 0 < c then os.take (wholes os (c - 1)) else []), decide (c < (tapeN os).length)) := by
  cases c with
  | zero => simp [readAll, tapeN]
  | succ c =>
    rw [tapeB_cons, List.take_succ_cons]
    unfold readAll
    simp only [u8 (show os.length < 256 by omega), Nat.zero_lt_succ, if_true, Nat.add_sub_cancel]
    rw [readMany_cut os h c]
    congr 1
    rw [decide_eq_decide, flatB, List.length_map]
    unfold tapeN
    rw [List.length_cons]; omega
theorem wholes_all : ∀ (os : List Ord) (k : Nat), ((os.map cells).flatten).length ≤ k → wholes os k = os.length
  | [], _, _ => rfl
  | o :: os, k, h => by
    have hl : (cellsB o).length = (cells o).length := by simp [cellsB]
    rw [List.map_cons, List.flatten_cons, List.length_append] at h
    unfold wholes
    rw [hl, if_pos (by omega), wholes_all os _ (by omega)]; rfl
theorem readAll_tape {os : List Ord} (h : ∀ o ∈ os, o.ok) (hn : os.length ≤ 14) : readAll (tapeB os) = (os, false) := by
  have := readAll_cut h hn (tapeN os).length
  rw [List.take_of_length_le (by rw [Array.length_toList, tapeB_size]; exact Nat.le_refl _), Array.toArray_toList] at this
  rw [this]
  unfold tapeN
  rw [if_pos (by simp), List.length_cons, Nat.add_sub_cancel, wholes_all _ _ (Nat.le_refl _), List.take_length]
  simp
end Mine
/- part L5 -/
namespace Mine
open PySem PySem.W PySem.Calls PyProof.Rows
variable {b0 : Nat}
def tot (ps : List Str) : Nat := (ps.map (·.length)).sum
def small : Ord → Prop
  | .txt x => x.length ≤ 5
  | .oct b => b.size ≤ 2
  | .num n => n < 256
  | .op _ => True
theorem tot_app (a b : List Str) : tot (a ++ b) = tot a + tot b := by simp [tot]
theorem tot_mem {ps : List Str} {x : Str} (h : x ∈ ps) : x.length ≤ tot ps := by
  induction ps with
  | nil => cases h
  | cons a r ih =>
    unfold tot
    rw [List.map_cons, List.sum_cons]
    rcases List.mem_cons.mp h with rfl | h
    · omega
    · have := ih h
      unfold tot at this
      omega
theorem num_len : ∀ n : Nat, n < 256 → (numText n).length ≤ 3 := by decide +kernel
theorem hexed_len {b : Array UInt8} (h : b.size ≤ 2) : (hexed b).length ≤ 4 := by
  have hl : (hexed b).length = (hexed b).cps.toList.length := by simp [Str.length]
  rw [hl]
  unfold hexed
  rw [join_flat, List.map_map]
  refine Nat.le_trans (flat_le _ 2 fun x hm => ?_) (by simp; omega)
  obtain ⟨c, _, rfl⟩ := List.mem_map.mp hm
  show ((hx (c.toNat / 16)).cps ++ (hx (c.toNat % 16)).cps).toList.length ≤ 2
  simp [hx]
theorem last2 {ps : List Str} (h : 1 < ps.length) : ∃ pre a b, ps = pre ++ [a, b] := by
  refine ⟨ps.take (ps.length - 2), ps[ps.length - 2], ps[ps.length - 1], ?_⟩
  conv => lhs; rw [← List.take_append_drop (ps.length - 2) ps]
  congr 1
  rw [List.drop_eq_getElem_cons (by omega)]
  congr 1
  rw [List.drop_eq_getElem_cons (by omega)]
  simp only [show ps.length - 2 + 1 = ps.length - 1 by omega]
  congr 1
  rw [List.drop_of_length_le (by omega)]
theorem laid_tot (ps : List Str) {o : Ord} (h : small o) : tot (laid ps o) ≤ 2 * tot ps + 5 ∧ (laid ps o).length ≤ ps.length + 1 := by
  cases o with
  | txt x =>
    have h : x.length ≤ 5 := h
    show tot (ps ++ [x]) ≤ _ ∧ (ps ++ [x]).length ≤ _
    rw [tot_app]
    have : tot [x] = x.length := by simp [tot]
    exact ⟨by omega, by simp⟩
  | oct b =>
    have := hexed_len (show b.size ≤ 2 from h)
    show tot (ps ++ [hexed b]) ≤ _ ∧ (ps ++ [hexed b]).length ≤ _
    rw [tot_app]
    have : tot [hexed b] = (hexed b).length := by simp [tot]
    exact ⟨by omega, by simp⟩
  | num n =>
    have := num_len n h
    show tot (ps ++ [numText n]) ≤ _ ∧ (ps ++ [numText n]).length ≤ _
    rw [tot_app]
    have : tot [numText n] = (numText n).length := by simp [tot]
    exact ⟨by omega, by simp⟩
  | op k =>
    simp only [laid]
    split
    · have h1 : tot ps = tot (ps.take (ps.length - 1)) + tot (ps.drop (ps.length - 1)) := by
        rw [← tot_app, List.take_append_drop]
      rw [tot_app]
      exact ⟨by omega, by simp; omega⟩
    · split
      · rename_i h2
        obtain ⟨pre, a, b, rfl⟩ := last2 h2
        have e1 : (pre ++ [a, b]).length - 2 = pre.length := by simp
        have e2 : (pre ++ [a, b]).length - 1 = pre.length + 1 := by simp
        rw [e1, e2]
        have e3 : (pre ++ [a, b]).take pre.length = pre := by simp
        have e4 : (pre ++ [a, b]).getD pre.length "" = a := by simp [List.getD]
        have e5 : (pre ++ [a, b]).getD (pre.length + 1) "" = b := by simp [List.getD]
        have e6 : tot (pre ++ [a, b]) = tot pre + (a.length + b.length) := by rw [tot_app]; simp [tot]
        rw [e3, e4, e5, e6]
        split
        · rw [tot_app]
          have : tot [a ++ b] = a.length + b.length := by simp [tot, PyProof.Rows.len_cat]
          exact ⟨by omega, by simp⟩
        · rw [tot_app]
          have : tot [b, a] = b.length + a.length := by simp [tot]
          exact ⟨by omega, by simp⟩
      · exact ⟨by omega, by omega⟩
theorem fold_tot : ∀ (l : List Ord), (∀ o ∈ l, small o) → ∀ ps, tot (l.foldl laid ps) + 5 ≤ 2 ^ l.length * (tot ps + 5) ∧ (l.foldl laid ps).length ≤ ps.length + l.length
  | [], _, ps => by simp
  | o :: l, h, ps => by
    have h1 := laid_tot ps (h o (by simp))
    have h2 := fold_tot l (fun x hx => h x (by simp [hx])) (laid ps o)
    rw [List.foldl_cons, List.length_cons]
    refine ⟨Nat.le_trans h2.1 ?_, by omega⟩
    rw [Nat.pow_succ, Nat.mul_assoc]
    exact Nat.mul_le_mul_left _ (by omega)
theorem drawn_small (x : Int) : small (drawn x) := by
  unfold drawn
  have h256 := fmod256 (x.fdiv 6)
  split
  · have := figText_ok (Nat.mod_lt (x.fdiv 6).natAbs (show 1000 > 0 by decide))
    show _ ≤ 5
    omega
  split
  · show (byteArr _).size ≤ 2
    simp [byteArr]
  split
  · show rest256 x < 256
    unfold rest256; omega
  · trivial
theorem base_pile : ∀ i, i < 9 → ((piles (base.take i)).all fun x => decide (x.length ≤ 8000)) = true ∧ (piles (base.take i)).length ≤ 1000 := by decide +kernel
theorem base_tot : tot (piles base) ≤ 30 ∧ (piles base).length ≤ 8 := by decide +kernel
theorem pile_ok {xs : List Int} (hn : xs.length ≤ 6) (i : Nat) : PileOk (piles ((orders xs).take i)) := by
  by_cases hi : i < 9
  · have e : (orders xs).take i = base.take i := List.take_append_of_le_length (by show i ≤ 8; omega)
    rw [e]
    obtain ⟨h1, h2⟩ := base_pile i hi
    exact ⟨fun x hx => by simpa using List.all_eq_true.mp h1 x hx, h2⟩
  · have e : (orders xs).take i = base ++ (xs.map drawn).take (i - 8) := by
      show (base ++ xs.map drawn).take i = _
      rw [List.take_append, List.take_of_length_le (by show 8 ≤ i; omega)]; rfl
    rw [e]
    unfold piles
    rw [List.foldl_append]
    have h := fold_tot ((xs.map drawn).take (i - 8)) (fun o ho => by
      obtain ⟨x, _, rfl⟩ := List.mem_map.mp (List.mem_of_mem_take ho)
      exact drawn_small x) (piles base)
    have hb := base_tot
    have hl : ((xs.map drawn).take (i - 8)).length ≤ 6 := by rw [List.length_take, List.length_map]; omega
    have hp : 2 ^ ((xs.map drawn).take (i - 8)).length ≤ 2 ^ 6 := Nat.pow_le_pow_right (by decide) hl
    have hm : 2 ^ ((xs.map drawn).take (i - 8)).length * (tot (piles base) + 5) ≤ 2 ^ 6 * 35 := Nat.mul_le_mul hp (by omega)
    refine ⟨fun x hx => ?_, ?_⟩
    · have := tot_mem hx
      unfold piles at h hm
      omega
    · unfold piles at h hb
      omega
end Mine
/- part B51 -/
namespace Mine
open PySem PySem.W PySem.Calls PyProof.Rows
variable {b0 : Nat}
noncomputable def lawDef : Option (List Stmt × Scope) := match (PySem.Challenge.pw_pm0025_01.main.body.drop 30 : List Stmt) with | .FunctionDef _ p b _ _ _ sc _ _ _ :: _ => some (b, sc) | _ => none
noncomputable abbrev lawBody : List Stmt := (lawDef.map (·.1)).getD []
noncomputable abbrev lawScope : Scope := (lawDef.map (·.2)).getD { kind := .function, names := [], isGenerator := false, isCoroutine := false }
noncomputable abbrev lawEnv (L a : Addr) (cd : Value) : Env := envOfC "law" lawScope L a cd
theorem frames_of {w : World} {env : Env} {S : St} {h : Heap} (F : FS b0 w env S h) (hk : env.scope.kind ≠ .module) (hf : env.frame = some env.locals) (hb : b0 ≤ env.locals) : Frames b0 h [env] ∧ b0 ≤ h.objs.size := by
  obtain ⟨m, hn, _⟩ := F.frame
  exact ⟨⟨hk, ⟨_, m, hf, hb, hn⟩, trivial⟩, Nat.le_trans hb (Nat.le_of_lt hn.lt)⟩
theorem frames_in {w : World} {env env' : Env} {S S' : St} {h₀ h : Heap} (F₀ : FS b0 w env S h₀) (hk : env.scope.kind ≠ .module) (hf : env.frame = some env.locals) (hb : b0 ≤ env.locals) (F : FS b0 w env' S' h) (e : S'.h₀ = h₀) : Frames b0 h [env] ∧ b0 ≤ h.objs.size := by
  obtain ⟨m, hn, _⟩ := F₀.frame
  have k : ∀ x o es ep, h₀.get? x = some o → o.data = .dict es ep → ∃ sl, h.get? x = some { o with slots := sl } := fun x o es ep ex d => by
    have n : x ≠ 149 := fun q => by
      obtain ⟨ps, e', _⟩ := F₀.tab
      (first | exact none2 q e' ex | obtain rfl := one2 q e' ex | (rw [q, e'] at ex; cases ex)); cases d
    rcases F.keep x o n (by rw [e]; exact ex) with e' | ⟨_, _, _, sl, _, e'⟩
    · exact ⟨o.slots, e'⟩
    · exact ⟨sl, e'⟩
  refine ⟨(frames_of F₀ hk hf hb).1.up k, ?_⟩
  obtain ⟨o, es, ep, eo, d, _⟩ := hn
  obtain ⟨sl, e'⟩ := k _ _ _ _ eo d
  exact Nat.le_trans hb (Nat.le_of_lt (Heap.lt_size e'))
section
variable {c : Cx} {S : St}
theorem ev_own_item_neg (H : EnvOk c.env) {x : Str} {p pos : Pos} {ix : Expr} {a : Addr} {ds : List D} {i : Int} {j : Nat} {d : D} (hw : S.own = some (x, a, ds)) (hi : Ev b0 c S ix (.int i)) (h0 : i < 0) (hij : i + ds.length = (j : Int)) (hj : ds[j]? = some d) (hz : ds.length < 2 ^ 40)
    (hs : ∀ o i, subscripted ix false o i = operate [o, i] (getItem o i) := by intro _ _; rfl) (hdn : (x == ("__debug__" : Str)) = false := by decide +kernel) (hn : (x == ("__classdict__" : Str)) = false := by decide +kernel) : Ev b0 c S (.Subscript (.Name x p) ix pos) d := ⟨fun s F =>
  Subscript_ (by
    obtain ⟨m, h1, h2, h3⟩ := F.frame
    obtain ⟨V, a1, a2, vs, a3, a4⟩ := h3 x a ds hw
    refine ev_var H h1 V (hi.use F fun u s₂ e₂ F₂ A₂ => ?_) hdn hn
    cases A₂ with
    | int _ t =>
      obtain ⟨m', k1, k2, k3⟩ := F₂.frame
      obtain ⟨V', _, _, vs', b3, b4⟩ := k3 x a ds hw
      obtain ⟨v, hv, A⟩ := b4.get' hj
      have hl := b4.length
      simp only [Array.length_toList] at hl
      refine tail_any b3.isList.typeIs slot_list_getitem.lookup (wpAny_getItem_list_neg b3.isList h0 (by omega) (by omega) (x := v) ?_ ⟨e₂, A⟩) (hs _ _)
      rw [hl, hij]; simpa using hv)⟩
end
section
variable {prog : Program} {w : World} {A : Around} {L a : Addr} {cd : Value} {os : List Ord} {h₀ : Heap} {T : List Addr} {σ : List (Str × D)}
theorem range_at {a : Int} {n i : Nat} {d : D} (h : (rangeD a 1 n)[i]? = some d) : i < n ∧ d = .int (a + i) := by
  unfold rangeD rangeInts at h
  simp at h
  obtain ⟨x, hx, h⟩ := h
  rw [List.getElem?_eq_some_iff] at hx
  obtain ⟨hi, hx⟩ := hx
  simp at hi hx
  exact ⟨hi, by rw [← h, ← hx]⟩
theorem rangeD_len (a : Int) (n : Nat) : (rangeD a 1 n).length = n := by simp [rangeD, rangeInts]
theorem plains_of : ∀ {ds : List D}, (∀ d ∈ ds, d.plain = true) → D.plain.plains ds = true
  | [], _ => rfl
  | d :: ds, h => by
    unfold D.plain.plains
    rw [h d (by simp), plains_of fun x hx => h x (by simp [hx])]; rfl
theorem depths_le {n : Nat} : ∀ {ds : List D}, (∀ d ∈ ds, d.depth ≤ n) → D.depth.depths ds ≤ n
  | [], _ => by unfold D.depth.depths; omega
  | d :: ds, h => by
    unfold D.depth.depths
    exact Nat.max_le.mpr ⟨h d (by simp), depths_le fun x hx => h x (by simp [hx])⟩
theorem dP_plain (ps : List Str) : (dP ps).plain = true := plains_of fun d hd => by
  obtain ⟨x, _, rfl⟩ := List.mem_map.mp hd
  rfl
theorem dP_depth (ps : List Str) : (dP ps).depth ≤ 3 := by
  have : D.depth.depths (ps.map D.str) ≤ 1 := depths_le fun d hd => by
    obtain ⟨x, _, rfl⟩ := List.mem_map.mp hd
    exact Nat.zero_le _
  unfold dP D.depth
  omega
/-- the piles' list -/
def pilesD (os : List Ord) (n : Nat) : List D := (List.range n).map fun j => dP (piles (os.take j))
theorem law_12 (H : EnvOk (lawEnv L a cd)) (R : Room 6 A) (hok : ∀ o ∈ os, o.ok) (hp : ∀ i, PileOk (piles (os.take i))) (hn : os.length ≤ 14) (h1 : σ.lookup (Str.ofString "found") = some (D.list (os.map Ord.d))) (h2 : σ.lookup (Str.ofString "piles") = some (D.list (pilesD os (os.length + 1)))) :
    Run b0 ⟨prog, w, A, lawEnv L a cd⟩ { h₀ := h₀, T₀ := [], T := T, σ := σ, own := none } (lawBody.drop 12) [] (.ret (.bool true)) := by
  have hf : ((rangeD 0 1 (os.length + 1)).filter fun _ => true).map (fun d => match d with | .int s => dP (piles (os.take s.toNat)) | d => d) = pilesD os (os.length + 1) := by
    rw [PySem.W.filter_tt]
    unfold rangeD rangeInts pilesD
    rw [List.map_map, List.map_map]
    apply List.map_congr_left
    intro j _
    simp
  refine run_ret (ev_cmp ((ev_comp H R.handled (fun _ => true) (fun d => match d with | .int s => dP (piles (os.take s.toNat)) | d => d) [("found", .list (os.map Ord.d))] (compok rfl (by kernel_rfl) ?hfree) (capt_cons h1 (by simp) (by kernel_rfl) rfl (by decide) (.inl rfl) capt_nil)
    (src_range1 H R.handled rfl (ev_bn H rfl g_len (.cons (ev_name H h2) .nil) (bc_len_list ?hlen)) ?hb ?hn) (fun C => .inl rfl) (fun C h₀ a i d hd _ H => ⟨.inl ⟨rfl, rfl⟩, fun _ => ?hturn⟩) ?hlen2 rfl).cast (congrArg D.list hf)) (ev_name H h2) (cmp_eq_list ?hplain ?hdepth ?hunits))
  case hfree =>
    intro n hn
    simp at hn
    subst hn
    exact ⟨_, rfl⟩
  case hlen => simp [pilesD]; omega
  case hb => simp [pilesD]; omega
  case hn => simp [pilesD]
  case hturn =>
    obtain ⟨hi, rfl⟩ := range_at hd
    refine (ev_call H (R.mono (by decide)) rfl g_reduce rfl (fn_reduce (os := os.take i) (fun o ho => hok o (List.mem_of_mem_take ho)) (fun j => by rw [List.take_take]; exact hp _)) (.cons (ev_gl H rfl g_laid) (.cons ((ev_slice (ev_name H (by repeat (first | exact lk_here | refine lk_there (by decide +kernel) ?_))) .none (.some (ev_name H (by repeat (first | exact lk_here | refine lk_there (by decide +kernel) ?_)))) (sl_list (by simp; omega))).cast ?_) (.cons (ev_list .nil) .nil)))).cast ?_
    · rw [show (0 : Int) + (i : Int) = ((i : Nat) : Int) by omega, cut_to, List.map_take]
    · simp
  case hlen2 => rw [rangeD_len]; omega
  case hplain =>
    refine plains_of fun d hd => ?_
    obtain ⟨j, _, rfl⟩ := List.mem_map.mp hd
    exact dP_plain _
  case hdepth =>
    have : D.depth.depths (pilesD os (os.length + 1)) ≤ 3 := by
      refine depths_le fun d hd => ?_
      obtain ⟨j, _, rfl⟩ := List.mem_map.mp hd
      exact dP_depth _
    show D.depth.depths _ + 1 ≤ 10
    omega
  case hunits => exact Nat.le_trans (Nat.le_add_right _ _) R.units
end

end Mine
/- part B52 -/
namespace Mine
open PySem PySem.W PySem.Calls PyProof.Rows
variable {b0 : Nat}
section
variable {prog : Program} {w : World} {A : Around} {L a : Addr} {cd : Value} {os : List Ord} {h₀ : Heap} {T : List Addr} {σ : List (Str × D)}
theorem law_11 (H : EnvOk (lawEnv L a cd)) (R : Room 6 A) (hok : ∀ o ∈ os, o.ok) (hp : ∀ i, PileOk (piles (os.take i))) (hn : os.length ≤ 14) (h1 : σ.lookup (Str.ofString "found") = some (D.list (os.map Ord.d))) (h2 : σ.lookup (Str.ofString "piles") = some (D.list (pilesD os (os.length + 1)))) :
    Run b0 ⟨prog, w, A, lawEnv L a cd⟩ { h₀ := h₀, T₀ := [], T := T, σ := σ, own := none } (lawBody.drop 11) [] (.ret (.bool true)) := by
  refine run_if (tst_cmp (ev_comp_pairs H R.handled [] (compok rfl (by kernel_rfl) (nofree rfl)) capt_nil (ev_name H h1) ?hp (fun C => rfl) (fun C => rfl) (fun C h₀ a d₁ d₂ hm _ H => ?hturn) rfl rfl) (ev_list .nil) (cmp_ne_list (ds := []) rfl (by decide) ?hunits)) (fun h => absurd h (by decide)) (fun _ => run_pop (law_12 H R hok hp hn h1 h2))
  case hp =>
    intro d hd
    obtain ⟨o, _, rfl⟩ := List.mem_map.mp hd
    cases o <;> exact ⟨_, _, rfl⟩
  case hunits => exact Nat.le_trans (Nat.le_add_right _ _) R.units
  case hturn =>
    obtain ⟨o, ho, he⟩ := List.mem_map.mp hm
    cases o with
    | txt x =>
      cases he
      exact tst_and (a := false) (b := true) ((tst_cmp (a := .int 0) (ev_name H (by repeat (first | exact lk_here | refine lk_there (by decide +kernel) ?_))) ev_int cmp_eq).cast (by decide)) (fun h => absurd h (by decide))
    | oct x =>
      cases he
      exact tst_and (a := true) (b := false) ((tst_cmp (a := .int 1) (ev_name H (by repeat (first | exact lk_here | refine lk_there (by decide +kernel) ?_))) ev_int cmp_eq).cast (by decide)) fun _ => tst_not (b := true) (tst_val (ev_bn H rfl g_isinstance (.cons (d := .bytes x) (ev_name H (by repeat (first | exact lk_here | refine lk_there (by decide +kernel) ?_))) (.cons (ev_gl H rfl g_bytes) .nil)) bc_isi_bytes) tru_bool)
    | num x =>
      cases he
      exact tst_and (a := false) (b := true) ((tst_cmp (a := .int 2) (ev_name H (by repeat (first | exact lk_here | refine lk_there (by decide +kernel) ?_))) ev_int cmp_eq).cast (by decide)) (fun h => absurd h (by decide))
    | op k =>
      cases he
      have hk : k = 3 ∨ k = 4 ∨ k = 5 := hok _ ho
      exact tst_and (a := false) (b := true) ((tst_cmp (a := dI k) (ev_name H (by repeat (first | exact lk_here | refine lk_there (by decide +kernel) ?_))) ev_int cmp_eq).cast (by rcases hk with rfl | rfl | rfl <;> decide)) (fun h => absurd h (by decide))
theorem law_10 (H : EnvOk (lawEnv L a cd)) (R : Room 6 A) (hA : A.frames = some [lawEnv L a cd]) (hb : b0 ≤ L) (hok : ∀ o ∈ os, o.ok) (hp : ∀ i, PileOk (piles (os.take i))) (hn : os.length ≤ 14) (h1 : σ.lookup (Str.ofString "tape") = some (D.bytes (tapeB os))) (h2 : σ.lookup (Str.ofString "piles") = some (D.list (pilesD os (os.length + 1)))) :
    Run b0 ⟨prog, w, A, lawEnv L a cd⟩ { h₀ := h₀, T₀ := [], T := T, σ := σ, own := none } (lawBody.drop 10) [] (.ret (.bool true)) := by
  have hz : (tapeB os).size ≤ 20000 := by have := tapeN_len hok hn; rw [tapeB_size]; omega
  have hr : readD (tapeB os) = .tup [.list (os.map Ord.d), .bool false] := by unfold readD; rw [readAll_tape hok hn]
  refine run_assign (d := .list (os.map Ord.d)) H (ev_item ((ev_law_read hz H (R.mono (by decide)) hA (fun h F => frames_of F (by show ScopeKind.function ≠ ScopeKind.module; decide) rfl hb) rfl (ev_name H h1)).cast hr) (ev_int (i := 0)) (it_tup (j := 0) rfl rfl (by show 2 < 2 ^ 40; decide))) (.inr ⟨rfl, _, rfl, ?hlt⟩) (fun _ _ _ q => by cases q) (law_11 H R hok hp hn lk_here (lk_there (by decide +kernel) h2))
  case hlt => exact Nat.lt_add_of_pos_right (n := L) (k := 5) (by decide)
theorem law_9 (H : EnvOk (lawEnv L a cd)) (R : Room 6 A) (hA : A.frames = some [lawEnv L a cd]) (hb : b0 ≤ L) (hok : ∀ o ∈ os, o.ok) (hp : ∀ i, PileOk (piles (os.take i))) (hn : os.length ≤ 14) (h1 : σ.lookup (Str.ofString "tape") = some (D.bytes (tapeB os))) (h2 : σ.lookup (Str.ofString "drawn") = some (D.list (os.map Ord.d))) {l : Addr} (hl : l ∉ T) :
    Run b0 ⟨prog, w, A, lawEnv L a cd⟩ { h₀ := h₀, T₀ := [], T := l :: T, σ := σ, own := some (Str.ofString "piles", l, pilesD os 1) } (lawBody.drop 9) [] (.ret (.bool true)) := by
  refine run_for H (nodup_of (ns := ["found", "ends", "tape", "cells", "drawn"]) rfl rfl (by decide +kernel)) (fun i => [("tape", .bytes (tapeB os))]) (fun i => some (Str.ofString "piles", l, pilesD os (i + 1))) (src_ev (ev_name H h2) (pyit_list R.handled)) (lk_cons h1 lk_nil) rfl (.inl rfl) (fun i y a ds q => by cases q; decide +kernel) ?_ ?_
  · intro h₁ i d hd
    obtain ⟨o, ho, rfl⟩ : ∃ o, os[i]? = some o ∧ o.d = d := by simpa using hd
    have hi : i < os.length := by
      rcases Nat.lt_or_ge i os.length with h' | h'
      · exact h'
      · (first | exact clash (List.getElem?_eq_none h') ho | exact none1 (List.getElem?_eq_none h') ho | obtain rfl := one1 (List.getElem?_eq_none h') ho | (rw [List.getElem?_eq_none h'] at ho; cases ho))
    have hlen : (pilesD os (i + 1)).length = i + 1 := by simp [pilesD]
    refine run_append H rfl (ev_call H (R.mono (by decide)) rfl g_laid rfl (fn_laid (r := o) (ps := piles (os.take i)) (hok o (List.mem_of_getElem? ho)) (hp i).1 (hp i).2) (.cons (ev_own_item_neg H rfl (ev_neg ev_int) (by decide) (j := i) (by rw [hlen]; omega) (by simp [pilesD]) (by rw [hlen]; omega)) (.cons (d := o.d) (ev_name H (by repeat (first | exact lk_here | refine lk_there (by decide +kernel) ?_))) .nil))) ?_ (by rw [hlen]; omega)
    refine run_turn ⟨rfl, rfl, rfl, ?_, fun y d hy => ?_⟩
    · show some _ = some _
      rw [← piles_succ ho]
      unfold pilesD
      rw [List.range_succ (n := i + 1), List.map_append]; rfl
    · have := List.mem_singleton.mp (mem_of_lookup hy)
      cases this
      exact lk_there (by decide +kernel) lk_here
  · refine run_freeze (T := T) rfl rfl (fun _ h => by cases h) hl ?_
    rw [List.length_map]
    exact law_10 H R hA hb hok hp hn (lk_there (by decide +kernel) lk_here) lk_here
theorem law_8 (H : EnvOk (lawEnv L a cd)) (R : Room 6 A) (hA : A.frames = some [lawEnv L a cd]) (hb : b0 ≤ L) (hok : ∀ o ∈ os, o.ok) (hp : ∀ i, PileOk (piles (os.take i))) (hn : os.length ≤ 14) (h1 : σ.lookup (Str.ofString "tape") = some (D.bytes (tapeB os))) (h2 : σ.lookup (Str.ofString "drawn") = some (D.list (os.map Ord.d))) :
    Run b0 ⟨prog, w, A, lawEnv L a cd⟩ { h₀ := h₀, T₀ := [], T := [], σ := σ, own := none } (lawBody.drop 8) [] (.ret (.bool true)) := by
  refine run_le (S' := { h₀ := h₀, T₀ := [], T := [], σ := [("tape", .bytes (tapeB os)), ("drawn", .list (os.map Ord.d))], own := none }) ⟨rfl, rfl, rfl, rfl, lk_cons h1 (lk_cons h2 lk_nil)⟩ ?_
  refine run_own H rfl (.cons (ev_list .nil) .nil) (.inl rfl) fun l hl => law_9 H R hA hb hok hp hn (by repeat (first | exact lk_here | refine lk_there (by decide +kernel) ?_)) (by repeat (first | exact lk_here | refine lk_there (by decide +kernel) ?_)) hl
end

end Mine
/- part B53 -/
namespace Mine
open PySem PySem.W PySem.Calls PyProof.Rows
variable {b0 : Nat}
theorem ord_plain (o : Ord) : o.d.plain = true := by cases o <;> rfl
theorem ord_depth (o : Ord) : o.d.depth ≤ 2 := by cases o <;> exact (by decide : (1 : Nat) ≤ 2)
theorem readD_plain (b : Array UInt8) : (readD b).plain = true := by
  unfold readD
  refine plains_of fun d hd => ?_
  simp only [List.mem_cons, List.not_mem_nil, or_false] at hd
  rcases hd with rfl | rfl
  · refine plains_of fun d hd => ?_
    obtain ⟨o, _, rfl⟩ := List.mem_map.mp hd
    exact ord_plain o
  · rfl
theorem readD_depth (b : Array UInt8) : (readD b).depth ≤ 4 := by
  unfold readD
  have h1 : D.depth.depths ((readAll b).1.map Ord.d) ≤ 2 := by
    refine depths_le fun d hd => ?_
    obtain ⟨o, _, rfl⟩ := List.mem_map.mp hd
    exact ord_depth o
  have h2 : D.depth.depths [D.list ((readAll b).1.map Ord.d), .bool (readAll b).2] ≤ 3 := by
    refine depths_le fun d hd => ?_
    simp only [List.mem_cons, List.not_mem_nil, or_false] at hd
    rcases hd with rfl | rfl
    · show D.depth.depths _ + 1 ≤ 3
      omega
    · exact Nat.zero_le _
  show D.depth.depths _ + 1 ≤ 4
  omega
/-- what is read of the tape cut at a number -/
def cutF (os : List Ord) : D → D
  | .int c => readD (((tapeB os).toList.take c.toNat).toArray)
  | d => d
def endP (n : Nat) : D → Bool
  | .int e => decide (e ≤ (n : Int))
  | _ => false
def endsD (os : List Ord) : List D := (List.range (os.length + 1)).map fun s => dI (endAt os s)
theorem endsD_count (os : List Ord) (n : Nat) (h : 0 < n) : ((((endsD os).filter (endP n)).map id).length : Int) - 1 = ((wholes os (n - 1) : Nat) : Int) := by
  have : (((endsD os).filter (endP n)).map id).length = wholes os (n - 1) + 1 := by
    rw [← ends_count' os n h, List.length_map]
    unfold endsD
    rw [List.filter_map, List.length_map]
    congr 1
    apply List.filter_congr
    intro s _
    show decide ((endAt os s : Int) ≤ (n : Int)) = _
    rw [decide_eq_decide]; omega
  rw [this]; omega
section
variable {prog : Program} {w : World} {A : Around} {L a : Addr} {cd : Value} {os : List Ord} {h₀ : Heap} {σ : List (Str × D)} {cs : List Nat}
theorem law_7 (H : EnvOk (lawEnv L a cd)) (R : Room 6 A) (hA : A.frames = some [lawEnv L a cd]) (hb : b0 ≤ L) (hok : ∀ o ∈ os, o.ok) (hp : ∀ i, PileOk (piles (os.take i))) (hn : os.length ≤ 14) (h1 : σ.lookup (Str.ofString "tape") = some (D.bytes (tapeB os))) (h2 : σ.lookup (Str.ofString "drawn") = some (D.list (os.map Ord.d)))
    (h3 : σ.lookup (Str.ofString "ends") = some (D.list (endsD os))) (h4 : σ.lookup (Str.ofString "cuts") = some (D.list (cs.map dI))) (hc : cs.length ≤ 1000) :
    Run b0 ⟨prog, w, A, lawEnv L a cd⟩ { h₀ := h₀, T₀ := [], T := [], σ := σ, own := none } (lawBody.drop 7) [] (.ret (.bool true)) := by
  have hz : (tapeB os).size ≤ 20000 := by have := tapeN_len hok hn; rw [tapeB_size]; omega
  have hmod : (lawEnv L a cd).scope.kind ≠ .module := by show ScopeKind.function ≠ ScopeKind.module; decide
  refine run_if (tst_cmp
    (ev_comp H R.handled (fun _ => true) (cutF os) [("tape", .bytes (tapeB os))] (compok rfl (by kernel_rfl) ?f1) (capt_cons h1 (by simp) (by kernel_rfl) rfl (by decide) (.inl rfl) capt_nil) (src_ev (ev_name H h4) (pyit_list R.handled)) (fun C => .inl rfl) (fun C h₀ a i d hd F₀ H => ⟨.inl ⟨rfl, rfl⟩, fun _ => ?t1⟩) ?l1 rfl)
    (ev_comp H R.handled (fun _ => true) (cutF os) [("drawn", .list (os.map Ord.d)), ("ends", .list (endsD os)), ("tape", .bytes (tapeB os))] (compok rfl (by kernel_rfl) ?f2) (capt_cons h2 (by simp) (by kernel_rfl) rfl (by decide) (.inl rfl) (capt_cons h3 (by simp) (by kernel_rfl) rfl (by decide) (.inl rfl) (capt_cons h1 (by simp) (by kernel_rfl) rfl (by decide) (.inl rfl) capt_nil))) (src_ev (ev_name H h4) (pyit_list R.handled)) (fun C => .inr ⟨rfl, _, rfl, Nat.lt_succ_self _⟩) (fun C h₀ a i d hd F₀ H => ⟨.inl ⟨rfl, rfl⟩, fun _ => ?t2⟩) ?l2 rfl)
    (cmp_ne_list ?plain ?depth ?units)) (fun h => absurd h (by decide)) (fun _ => run_pop (law_8 H R hA hb hok hp hn h1 h2))
  case f1 =>
    intro n hn
    simp at hn
    subst hn
    exact ⟨_, rfl⟩
  case f2 =>
    intro n hn
    simp at hn
    rcases hn with rfl | rfl | rfl <;> exact ⟨_, rfl⟩
  case l1 => rw [List.length_map]; omega
  case l2 => rw [List.length_map]; omega
  case units => exact Nat.le_trans (Nat.le_add_right _ _) R.units
  case plain =>
    refine plains_of fun d hd => ?_
    rw [PySem.W.filter_tt] at hd
    obtain ⟨e, he, rfl⟩ := List.mem_map.mp hd
    obtain ⟨n, _, rfl⟩ := List.mem_map.mp he
    exact readD_plain _
  case depth =>
    have : D.depth.depths (((cs.map dI).filter fun _ => true).map (cutF os)) ≤ 4 := by
      refine depths_le fun d hd => ?_
      rw [PySem.W.filter_tt] at hd
      obtain ⟨e, he, rfl⟩ := List.mem_map.mp hd
      obtain ⟨n, _, rfl⟩ := List.mem_map.mp he
      exact readD_depth _
    show D.depth.depths _ + 1 ≤ 10
    omega
  case t1 =>
    obtain ⟨n, _, rfl⟩ : ∃ n, cs[i]? = some n ∧ dI n = d := by simpa using hd
    refine Ev.cast (ev_law_read (b := ((tapeB os).toList.take n).toArray) ?_ H (R.mono (by decide)) hA (fun h F => frames_in F₀ hmod rfl hb F rfl) rfl (Ev.cast (ev_slice (od := .bytes (tapeB os)) (j := some ((n : Nat) : Int)) (ev_name H (by repeat (first | exact lk_here | refine lk_there (by decide +kernel) ?_))) .none (.some (ev_name H lk_here)) (sl_bytes (by omega))) ?_)) ?_
    · simp; omega
    · rw [cut_to]
    · rfl
  case t2 =>
    obtain ⟨n, _, rfl⟩ : ∃ n, cs[i]? = some n ∧ dI n = d := by simpa using hd
    have ht : D.tup [.list ((if 0 < n then os.take (wholes os (n - 1)) else []).map Ord.d), .bool (decide ((n : Int) < ((tapeB os).size : Int)))] = cutF os (dI n) := by
      unfold dI cutF readD
      simp only [Int.toNat_natCast]
      rw [readAll_cut hok hn n, tapeB_size]
      rw [show decide ((n : Int) < ((tapeN os).length : Int)) = decide (n < (tapeN os).length) by rw [decide_eq_decide]; omega]
    refine Ev.cast (ev_tup (.cons (ev_if (tst_cmp (a := dI n) (b := .int 0) (ev_name H (by repeat (first | exact lk_here | refine lk_there (by decide +kernel) ?_))) ev_int cmp_gt) (fun hr => ?b1) (fun hr => ?b2)) (.cons (ev_cmp (a := dI n) (ev_name H (by repeat (first | exact lk_here | refine lk_there (by decide +kernel) ?_))) (ev_bn H rfl g_len (.cons (ev_name H (by repeat (first | exact lk_here | refine lk_there (by decide +kernel) ?_))) .nil) (bc_len_bytes (by omega))) cmp_lt) .nil))) ht
    case b2 =>
      have h0 : ¬ 0 < n := by
        intro q
        have : decide ((0 : Int) < (n : Int)) = true := by rw [decide_eq_true_eq]; omega
        (first | exact clash this hr | exact none1 this hr | obtain rfl := one1 this hr | (rw [this] at hr; cases hr))
      rw [if_neg h0]
      exact ev_list .nil
    case b1 =>
      have h0 : 0 < n := by
        have := of_decide_eq_true hr
        omega
      rw [if_pos h0]
      refine Ev.cast (ev_slice (od := .list (os.map Ord.d)) (j := some ((wholes os (n - 1) : Nat) : Int)) (ev_name H (by repeat (first | exact lk_here | refine lk_there (by decide +kernel) ?_))) .none (.some (Ev.cast (ev_bin (ev_bn H rfl g_len (.cons (ev_comp H R.handled (endP n) id [("cut", dI n)] (compok rfl (by kernel_rfl) ?f3) (capt_cons (by repeat (first | exact lk_here | refine lk_there (by decide +kernel) ?_)) (by simp) (by kernel_rfl) rfl (by decide) (.inl rfl) capt_nil) (src_ev (ev_name H (by repeat (first | exact lk_here | refine lk_there (by decide +kernel) ?_))) (pyit_list R.handled)) (fun C => .inl rfl) (fun C h₀ a j d hd F₀ H => ⟨.inr ⟨_, rfl, ?t3⟩, fun _ => ?t4⟩) ?l3 rfl) .nil) (bc_len_list ?l4)) ev_int bin_sub) (congrArg D.int (endsD_count os n h0)))) (sl_list ?l5)) ?c5
      case f3 =>
        intro n hn
        simp at hn
        subst hn
        exact ⟨_, rfl⟩
      case t3 =>
        obtain ⟨s, _, rfl⟩ : ∃ s, (List.range (os.length + 1))[j]? = some s ∧ dI (endAt os s) = d := by
          unfold endsD at hd
          rw [List.getElem?_map, Option.map_eq_some_iff] at hd
          exact hd
        exact tst_cmp (a := dI (endAt os s)) (b := dI n) (ev_name H (by repeat (first | exact lk_here | refine lk_there (by decide +kernel) ?_))) (ev_name H (by repeat (first | exact lk_here | refine lk_there (by decide +kernel) ?_))) cmp_le
      case t4 => exact (ev_name H (by repeat (first | exact lk_here | refine lk_there (by decide +kernel) ?_)))
      case l3 => simp [endsD]; omega
      case l4 =>
        rw [List.length_map]
        refine Nat.le_trans (List.length_filter_le _ _) ?_
        simp [endsD]; omega
      case l5 => rw [List.length_map]; omega
      case c5 => rw [cut_to, List.map_take]
end

end Mine
/- part B54 -/
namespace Mine
open PySem PySem.W PySem.Calls PyProof.Rows
variable {b0 : Nat}
theorem sumfits_of (l : List Nat) (h : l.sum < 2 ^ 40) : PySem.SumFits (l.map fun n : Nat => (n : Int)) := fun j hj => by
  have hle : ∀ (l : List Nat) (x : Nat), x ∈ l → x ≤ l.sum := fun l x hx => by
    induction l with
    | nil => cases hx
    | cons a r ih =>
      rw [List.sum_cons]
      rcases List.mem_cons.mp hx with rfl | hx
      · omega
      · have := ih hx; omega
  have hs : ∀ l : List Nat, (l.map fun n : Nat => (n : Int)).sum = ((l.sum : Nat) : Int) := fun l => by
    induction l with
    | nil => rfl
    | cons a r ih => rw [List.map_cons, List.sum_cons, List.sum_cons, ih]; omega
  have ht : ∀ (l : List Nat) (k : Nat), (l.take k).sum ≤ l.sum := fun l k => by
    conv => rhs; rw [← List.take_append_drop k l]
    rw [List.sum_append]; omega
  rw [List.length_map] at hj
  have e1 : (l.map fun n : Nat => (n : Int)).getD j 0 = ((l[j] : Nat) : Int) := by simp [List.getD, hj]
  have e2 : ((l.map fun n : Nat => (n : Int)).take (j + 1)).sum = (((l.take (j + 1)).sum : Nat) : Int) := by rw [← List.map_take, hs]
  rw [e1, e2]
  have b1 := hle l l[j] (List.getElem_mem hj)
  have b2 := ht l (j + 1)
  unfold PySem.InLong
  constructor <;> omega
def cutsFrom (n : Nat) : Nat := max 3 (n - 12)
def cutsN (os : List Ord) : List Nat := [0, 1, 2] ++ (List.range ((tapeN os).length + 1 - cutsFrom (tapeN os).length)).map (cutsFrom (tapeN os).length + ·)
def lenF : D → D
  | .list l => dI l.length
  | d => d
def endF (os : List Ord) : D → D
  | .int s => dI (endAt os s.toNat)
  | d => d
theorem cellsD_take (os : List Ord) (s : Nat) : ((((os.map fun o => D.list ((cells o).map dI)).take s).filter fun _ => true).map lenF) = (((os.take s).map fun o => (cells o).length).map fun n : Nat => (n : Int)).map D.int := by
  rw [PySem.W.filter_tt, ← List.map_take, List.map_map, List.map_map, List.map_map]
  apply List.map_congr_left
  intro o _
  show dI ((cells o).map dI).length = _
  rw [List.length_map]; rfl
section
variable {prog : Program} {w : World} {A : Around} {L a : Addr} {cd : Value} {os : List Ord} {h₀ : Heap} {σ : List (Str × D)}
theorem law_6 (H : EnvOk (lawEnv L a cd)) (R : Room 6 A) (hA : A.frames = some [lawEnv L a cd]) (hb : b0 ≤ L) (hok : ∀ o ∈ os, o.ok) (hp : ∀ i, PileOk (piles (os.take i))) (hn : os.length ≤ 14) (h3 : 3 ≤ (tapeN os).length) (h1 : σ.lookup (Str.ofString "tape") = some (D.bytes (tapeB os))) (h2 : σ.lookup (Str.ofString "drawn") = some (D.list (os.map Ord.d)))
    (h4 : σ.lookup (Str.ofString "ends") = some (D.list (endsD os))) :
    Run b0 ⟨prog, w, A, lawEnv L a cd⟩ { h₀ := h₀, T₀ := [], T := [], σ := σ, own := none } (lawBody.drop 6) [] (.ret (.bool true)) := by
  have hl := tapeN_len hok hn
  have hsz := tapeB_size os
  have ev_len : ∀ p1 p2 p3, Ev b0 ⟨prog, w, A, lawEnv L a cd⟩ { h₀ := h₀, T₀ := [], T := [], σ := σ, own := none } (.Call (.Name "len" p1) [.Name "tape" p2] [] p3) (.int ((tapeN os).length : Int)) := fun p1 p2 p3 => Ev.cast (ev_bn H rfl g_len (.cons (ev_name H h1) .nil) (bc_len_bytes (by omega))) (by rw [hsz])
  refine run_assign (d := .list ((cutsN os).map dI)) H (Ev.cast (ev_bin (ev_list (.cons ev_int (.cons ev_int (.cons ev_int .nil)))) (ev_list_range H R.handled rfl rfl (a := ((cutsFrom (tapeN os).length : Nat) : Int)) (b := ((tapeN os).length : Int) + 1) (n := (tapeN os).length + 1 - cutsFrom (tapeN os).length) (Ev.cast (ev_bn H rfl g_max (.cons ev_int (.cons (ev_bin (ev_len _ _ _) ev_int bin_sub) .nil)) (bc_max R.handled)) ?m) (ev_bin (ev_len _ _ _) ev_int bin_add) ?hb ?hn ?hz) (bin_list ?hl)) ?eq) (.inl rfl) (fun _ _ _ q => by cases q) (law_7 H R hA hb hok hp hn (lk_there (by decide +kernel) h1) (lk_there (by decide +kernel) h2) (lk_there (by decide +kernel) h4) lk_here ?hc)
  case m =>
    congr 1
    unfold cutsFrom
    split <;> omega
  case hb => unfold cutsFrom; omega
  case hn => unfold cutsFrom; omega
  case hz => unfold cutsFrom; omega
  case hl => rw [rangeD_len]; simp; unfold cutsFrom; omega
  case eq =>
    unfold cutsN rangeD rangeInts
    rw [List.map_append, List.map_map, List.map_map]
    congr 2
    apply List.map_congr_left
    intro i _
    show D.int _ = D.int _
    congr 1
    simp
  case hc =>
    unfold cutsN
    rw [List.length_append, List.length_map, List.length_range]
    simp
    unfold cutsFrom; omega
theorem law_5 (H : EnvOk (lawEnv L a cd)) (R : Room 6 A) (hA : A.frames = some [lawEnv L a cd]) (hb : b0 ≤ L) (hok : ∀ o ∈ os, o.ok) (hp : ∀ i, PileOk (piles (os.take i))) (hn : os.length ≤ 14) (h3 : 3 ≤ (tapeN os).length) (h1 : σ.lookup (Str.ofString "tape") = some (D.bytes (tapeB os))) (h2 : σ.lookup (Str.ofString "drawn") = some (D.list (os.map Ord.d)))
    (h4 : σ.lookup (Str.ofString "cells") = some (D.list (os.map fun o => D.list ((cells o).map dI)))) :
    Run b0 ⟨prog, w, A, lawEnv L a cd⟩ { h₀ := h₀, T₀ := [], T := [], σ := σ, own := none } (lawBody.drop 5) [] (.ret (.bool true)) := by
  have hf : ((rangeD 0 1 (os.length + 1)).filter fun _ => true).map (endF os) = endsD os := by
    rw [PySem.W.filter_tt]
    unfold rangeD rangeInts endsD
    rw [List.map_map, List.map_map]
    apply List.map_congr_left
    intro j _
    show dI (endAt os (Int.toNat _)) = _
    simp
  refine run_assign (d := .list (endsD os)) H (Ev.cast (ev_comp H R.handled (fun _ => true) (endF os) [("cells", .list (os.map fun o => D.list ((cells o).map dI)))] (compok rfl (by kernel_rfl) ?f1) (capt_cons h4 (by simp) (by kernel_rfl) rfl (by decide) (.inl rfl) capt_nil)
    (src_range1 H R.handled rfl (ev_bin (ev_bn H rfl g_len (.cons (ev_name H h4) .nil) (bc_len_list ?hlen)) ev_int bin_add) ?hb ?hn) (fun C => .inl rfl) (fun C h₀ a i d hd F₀ H => ⟨.inl ⟨rfl, rfl⟩, fun _ => ?t1⟩) ?l1 rfl) (congrArg D.list hf)) (.inr ⟨rfl, _, rfl, ?hlt⟩) (fun _ _ _ q => by cases q) (law_6 H R hA hb hok hp hn h3 (lk_there (by decide +kernel) h1) (lk_there (by decide +kernel) h2) lk_here)
  case f1 =>
    intro n hn
    simp at hn
    subst hn
    exact ⟨_, rfl⟩
  case hlen => rw [List.length_map]; omega
  case hb => rw [List.length_map]; omega
  case hn => rw [List.length_map]; omega
  case l1 => rw [rangeD_len]; omega
  case hlt => exact Nat.lt_add_of_pos_right (n := L) (k := 4) (by decide)
  case t1 =>
    obtain ⟨hi, rfl⟩ := range_at hd
    have he : D.int (1 + ((((os.take i).map fun o => (cells o).length).map fun n : Nat => (n : Int)).sum)) = endF os (.int (0 + (i : Int))) := by
      show _ = dI (endAt os (Int.toNat (0 + (i : Int))))
      unfold endAt dI
      have hs : ∀ l : List Nat, (l.map fun n : Nat => (n : Int)).sum = ((l.sum : Nat) : Int) := fun l => by
        induction l with
        | nil => rfl
        | cons a r ih => rw [List.map_cons, List.sum_cons, List.sum_cons, ih]; omega
      rw [hs]
      simp
    refine Ev.cast (ev_bin ev_int (ev_bn H rfl g_sum (.cons (Ev.cast (ev_comp H R.handled (fun _ => true) lenF [] (compok rfl (by kernel_rfl) (nofree rfl)) capt_nil (src_ev (Ev.cast (ev_slice (od := .list (os.map fun o => D.list ((cells o).map dI))) (j := some ((i : Nat) : Int)) (ev_name H (by repeat (first | exact lk_here | refine lk_there (by decide +kernel) ?_))) .none (.some (Ev.cast (ev_name H lk_here) (by congr 1; omega))) (sl_list ?l2)) (congrArg D.list (cut_to _ _))) (pyit_list R.handled)) (fun C => .inl rfl) (fun C h₀ a j d hd F₀ H => ⟨.inl ⟨rfl, rfl⟩, fun _ => ?t2⟩) ?l3 rfl) (congrArg D.list (cellsD_take os i))) .nil) (bc_sum R.handled (sumfits_of _ ?hs))) bin_add) he
    case l2 => rw [List.length_map]; omega
    case l3 => rw [List.length_take, List.length_map]; omega
    case hs =>
      have hle : ∀ os : List Ord, (∀ o ∈ os, o.ok) → (os.map fun o => (cells o).length).sum ≤ 257 * os.length := fun os => by
        induction os with
        | nil => intro _; simp
        | cons o os ih =>
          intro h
          have h1 := ih fun x hx => h x (by simp [hx])
          have h2 := cells_len (h o (by simp))
          rw [List.map_cons, List.sum_cons, List.length_cons]; omega
      have := hle (os.take i) fun o ho => hok o (List.mem_of_mem_take ho)
      have h2 : (os.take i).length ≤ 14 := by rw [List.length_take]; omega
      omega
    case t2 =>
      obtain ⟨o, ho, rfl⟩ : ∃ o, o ∈ os ∧ D.list ((cells o).map dI) = d := by
        have := List.mem_of_mem_take (List.mem_of_getElem? hd)
        exact List.mem_map.mp this
      exact ev_bn H rfl g_len (.cons (ev_name H lk_here) .nil) (bc_len_list (by have := cells_len (hok o ho); rw [List.length_map]; omega))
end

end Mine
/- part B55 -/
namespace Mine
open PySem PySem.W PySem.Calls PyProof.Rows
variable {b0 : Nat}
def wrA (os : List Ord) : Array UInt8 := ((enc (tapeN os)).map (·.toUInt8)).toArray
def cellF (d : D) : D := .list ((cells (ordOf d)).map dI)
section
variable {prog : Program} {w : World} {A : Around} {L a : Addr} {cd : Value} {os : List Ord} {h₀ : Heap} {σ : List (Str × D)}
theorem law_4 (H : EnvOk (lawEnv L a cd)) (R : Room 6 A) (hA : A.frames = some [lawEnv L a cd]) (hb : b0 ≤ L) (hok : ∀ o ∈ os, o.ok) (hp : ∀ i, PileOk (piles (os.take i))) (hn : os.length ≤ 14) (h3 : 3 ≤ (tapeN os).length) (h1 : σ.lookup (Str.ofString "tape") = some (D.bytes (tapeB os))) (h2 : σ.lookup (Str.ofString "drawn") = some (D.list (os.map Ord.d)))
    (h4 : σ.lookup (Str.ofString "cells") = some (D.list (os.map fun o => D.list ((cells o).map dI)))) (h5 : σ.lookup (Str.ofString "written") = some (D.bytes (wrA os))) :
    Run b0 ⟨prog, w, A, lawEnv L a cd⟩ { h₀ := h₀, T₀ := [], T := [], σ := σ, own := none } (lawBody.drop 4) [] (.ret (.bool true)) := by
  have hl := tapeN_len hok hn
  have hlt := tapeN_lt hok hn
  have h128 := enc_lt _ hlt
  have hel := enc_len (tapeN os)
  have hws : (wrA os).size = (enc (tapeN os)).length := by simp [wrA]
  have hwl : (wrA os).toList.map (·.toNat) = enc (tapeN os) := by
    unfold wrA
    rw [List.toList_toArray]
    exact map_u8 _ fun x hx => Nat.lt_trans (h128 x hx) (by decide)
  obtain ⟨q, lc, p, hfold, hq1, hq⟩ := afold (tapeN os) hlt []
  have hcp : (((tapeB os).toList.map fun x => D.int (x.toNat : Int)).filter fun _ => true).map id = (tapeN os).map dI := by
    rw [PySem.W.filter_tt, List.map_id, ← tapeB_list hok hn, List.map_map]; rfl
  refine run_if (tst_or (a := false) (b := false)
    (Tst.cast (tst_cmp (ev_name H h5) (ev_meth (ev_call H (R.mono (by decide)) rfl g_signs rfl (fn_signs (l := tapeN os) hlt (by omega)) (.cons (Ev.cast (ev_comp H R.handled (fun _ => true) id [] (compok rfl (by kernel_rfl) (nofree rfl)) capt_nil (src_ev (ev_name H h1) (pyit_bytes R.handled)) (fun C => .inl rfl) (fun C h₀ a j d hd F₀ H => ⟨.inl ⟨rfl, rfl⟩, fun _ => (ev_name H lk_here)⟩) ?l1 rfl) (congrArg D.list hcp)) .nil)) mt_encode (.cons ev_str .nil) (bc_encode ?asc ?l2)) cmp_ne_bytes) ?e1)
    (fun _ => Tst.cast (tst_cmp (Ev.cast (ev_call H (R.mono (by decide)) rfl g_b64decode rfl (fn_b64decode (b := wrA os) (out₁ := tapeN os) (q₁ := q) (lc₁ := lc) (p₁ := p) ?l3 (by rw [hwl]; exact hfold) hq1 hq) (.cons (ev_name H h5) .nil)) (congrArg D.bytes (tapeB_arr os))) (ev_name H h1) cmp_ne_bytes) ?e2)) (fun h => absurd h (by decide)) (fun _ => run_pop (law_5 H R hA hb hok hp hn h3 h1 h2 h4))
  case l1 => rw [List.length_map, Array.length_toList, tapeB_size]; omega
  case l2 => show (enc (tapeN os)).toArray.size ≤ _; rw [List.size_toArray]; omega
  case l3 => omega
  case asc =>
    intro c hc
    exact h128 c (by simpa [Str.of] using hc)
  case e1 => simp [wrA, Str.of]
  case e2 => simp
theorem law_3 (H : EnvOk (lawEnv L a cd)) (R : Room 6 A) (hA : A.frames = some [lawEnv L a cd]) (hb : b0 ≤ L) (hok : ∀ o ∈ os, o.ok) (hp : ∀ i, PileOk (piles (os.take i))) (hn : os.length ≤ 14) (h3 : 3 ≤ (tapeN os).length) (h1 : σ.lookup (Str.ofString "tape") = some (D.bytes (tapeB os))) (h2 : σ.lookup (Str.ofString "drawn") = some (D.list (os.map Ord.d)))
    (h4 : σ.lookup (Str.ofString "cells") = some (D.list (os.map fun o => D.list ((cells o).map dI)))) :
    Run b0 ⟨prog, w, A, lawEnv L a cd⟩ { h₀ := h₀, T₀ := [], T := [], σ := σ, own := none } (lawBody.drop 3) [] (.ret (.bool true)) := by
  have hl := tapeN_len hok hn
  have hlt := tapeN_lt hok hn
  have hw : byteArr ((b2a ((tapeB os).toList.map (·.toNat))).map fun n : Nat => (n : Int)) = wrA os := by
    rw [tapeB_list hok hn, b2a_enc _ hlt]
    unfold byteArr wrA
    rw [List.map_map]; rfl
  exact run_assign (d := .bytes (wrA os)) H (Ev.cast (ev_call H (R.mono (by decide)) rfl g_b64encode rfl (fn_b64encode (b := tapeB os) (by rw [tapeB_size]; omega)) (.cons (ev_name H h1) .nil)) (congrArg D.bytes hw)) (.inl rfl) (fun _ _ _ q => by cases q) (law_4 H R hA hb hok hp hn h3 (lk_there (by decide +kernel) h1) (lk_there (by decide +kernel) h2) (lk_there (by decide +kernel) h4) lk_here)
theorem law_2 (H : EnvOk (lawEnv L a cd)) (R : Room 6 A) (hA : A.frames = some [lawEnv L a cd]) (hb : b0 ≤ L) (hok : ∀ o ∈ os, o.ok) (hp : ∀ i, PileOk (piles (os.take i))) (hn : os.length ≤ 14) (h3 : 3 ≤ (tapeN os).length) (h2 : σ.lookup (Str.ofString "drawn") = some (D.list (os.map Ord.d)))
    (h4 : σ.lookup (Str.ofString "cells") = some (D.list (os.map fun o => D.list ((cells o).map dI)))) :
    Run b0 ⟨prog, w, A, lawEnv L a cd⟩ { h₀ := h₀, T₀ := [], T := [], σ := σ, own := none } (lawBody.drop 2) [] (.ret (.bool true)) := by
  have hl := tapeN_len hok hn
  have hlt := tapeN_lt hok hn
  have hcat : [D.int ((os.map Ord.d).length : Int)] ++ (os.map fun o => (cells o).map dI).flatten = ((tapeN os).map fun n : Nat => (n : Int)).map D.int := by
    unfold tapeN
    rw [List.length_map, List.map_cons, List.map_cons, ← dI_map, List.map_flatten, List.map_map]; rfl
  have hfl : (os.map fun o => (cells o).map dI).flatten.length ≤ 3600 := by
    have := congrArg List.length hcat
    simp only [List.length_append, List.length_map, List.length_cons, List.length_nil] at this
    omega
  refine run_assign (d := .bytes (tapeB os)) H (Ev.cast (ev_bt H rfl g_bytes (.cons (Ev.cast (ev_bin (ev_list (.cons (ev_bn H rfl g_len (.cons (ev_name H h2) .nil) (bc_len_list ?l1)) .nil)) (ev_comp_two H R.handled (dss := os.map fun o => (cells o).map dI) (compok rfl (by kernel_rfl) (nofree rfl)) (Ev.cast (ev_name H h4) ?e1) (fun C => rfl) (fun C => rfl) (by decide +kernel) (by decide +kernel) (by decide +kernel) (by decide +kernel) (by decide +kernel) ?l2) (bin_list ?l3)) (congrArg D.list hcat)) .nil) (bc_bytes R.handled ?r ?l4)) (congrArg D.bytes (tapeB_arr os))) (.inr ⟨rfl, _, rfl, ?hlt⟩) (fun _ _ _ q => by cases q) (law_3 H R hA hb hok hp hn h3 lk_here (lk_there (by decide +kernel) h2) (lk_there (by decide +kernel) h4))
  case l1 => rw [List.length_map]; omega
  case l2 => omega
  case l3 => simp only [List.length_cons, List.length_nil]; omega
  case l4 => rw [List.length_map]; omega
  case e1 => rw [List.map_map]; rfl
  case hlt => exact Nat.lt_add_of_pos_right (n := L) (k := 3) (by decide)
  case r =>
    intro n hm
    obtain ⟨x, hx, rfl⟩ := List.mem_map.mp hm
    have := hlt x hx
    omega
theorem law_1 (H : EnvOk (lawEnv L a cd)) (R : Room 6 A) (hA : A.frames = some [lawEnv L a cd]) (hb : b0 ≤ L) (hok : ∀ o ∈ os, o.ok) (hp : ∀ i, PileOk (piles (os.take i))) (hn : os.length ≤ 14) (h3 : 3 ≤ (tapeN os).length) (h2 : σ.lookup (Str.ofString "drawn") = some (D.list (os.map Ord.d))) :
    Run b0 ⟨prog, w, A, lawEnv L a cd⟩ { h₀ := h₀, T₀ := [], T := [], σ := σ, own := none } (lawBody.drop 1) [] (.ret (.bool true)) := by
  have hf : ((os.map Ord.d).filter fun _ => true).map cellF = os.map fun o => D.list ((cells o).map dI) := by
    rw [PySem.W.filter_tt, List.map_map]
    apply List.map_congr_left
    intro o _
    show D.list _ = D.list _
    rw [ordOf_d]
  refine run_assign (d := .list (os.map fun o => D.list ((cells o).map dI))) H (Ev.cast (ev_comp H R.handled (fun _ => true) cellF [] (compok rfl (by kernel_rfl) (nofree rfl)) capt_nil (src_ev (ev_name H h2) (pyit_list R.handled)) (fun C => .inl rfl) (fun C h₀ a j d hd F₀ H => ⟨.inl ⟨rfl, rfl⟩, fun _ => ?t1⟩) ?l1 rfl) (congrArg D.list hf)) (.inr ⟨rfl, _, rfl, ?hlt⟩) (fun _ _ _ q => by cases q) (law_2 H R hA hb hok hp hn h3 (lk_there (by decide +kernel) h2) lk_here)
  case l1 => rw [List.length_map]; omega
  case hlt => exact Nat.lt_add_of_pos_right (n := L) (k := 2) (by decide)
  case t1 =>
    obtain ⟨o, ho, rfl⟩ := List.mem_map.mp (List.mem_of_getElem? hd)
    refine Ev.cast (ev_call H (R.mono (by decide)) rfl g_cells rfl (fn_cells (hok o ho)) (.cons (ev_name H lk_here) .nil)) ?_
    unfold cellF
    rw [ordOf_d]
theorem law_0 {xs : List Int} (H : EnvOk (lawEnv L a cd)) (R : Room 6 A) (hA : A.frames = some [lawEnv L a cd]) (hb : b0 ≤ L) (hx : xs.length ≤ 63) :
    Run b0 ⟨prog, w, A, lawEnv L a cd⟩ { h₀ := h₀, T₀ := [], T := [], σ := [(Str.ofString "script", .list (xs.map D.int))], own := none } lawBody [] (.ret (.bool true)) := by
  have h6 : (xs.take 6).length ≤ 6 := by rw [List.length_take]; omega
  have hn : (orders (xs.take 6)).length ≤ 14 := by
    unfold orders
    rw [List.length_append, List.length_map]
    show 8 + _ ≤ 14
    omega
  have h3 : 3 ≤ (tapeN (orders (xs.take 6))).length := by
    unfold tapeN orders
    rw [List.map_append, List.flatten_append, List.length_cons, List.length_append]
    have : (base.map cells).flatten.length ≥ 2 := by decide +kernel
    omega
  refine run_assign (d := .list ((orders (xs.take 6)).map Ord.d)) H (ev_call H (R.mono (by decide)) rfl g_orders rfl (fn_orders (xs := xs.take 6) (by omega)) (.cons (Ev.cast (ev_slice (od := .list (xs.map D.int)) (j := some ((6 : Nat) : Int)) (ev_name H lk_here) .none (.some ev_int) (sl_list ?l1)) ?e1) .nil)) (.inr ⟨rfl, _, rfl, ?hlt⟩) (fun _ _ _ q => by cases q) (law_1 H R hA hb (orders_ok _) (pile_ok h6) hn h3 lk_here)
  case l1 => rw [List.length_map]; omega
  case e1 => rw [cut_to, List.map_take]
  case hlt => exact Nat.lt_add_of_pos_right (n := L) (k := 1) (by decide)
end

end Mine
/- part B56 -/
namespace Mine
open PySem PySem.W PySem.Calls PyProof.Rows
variable {b0 : Nat}
theorem good_end {c : ClaimW} {cl : Str → Option Addr} {mean : ExcName → Option Value} {args : List WData} {s₁ s' : Shared} (hk : ∀ b o, s₁.heap.get? b = some o → s'.heap.get? b = some o) (hos : s'.os = s₁.os) (hg : s'.gens = #[]) (hn : ∀ cls, c.raises args cls = false) (hp : c.post args (.bool true) args = true) :
    GoodW c cl mean args s₁ (.ok (.ret (.bool true))) s' := ⟨.inl ⟨_, _, [], rfl, hn, .bool true, hp, unshared_nil⟩, hk, hos, hg⟩
theorem ints_at {g : Vw} : ∀ {vs : List Value} {xs : List Int}, IntsAre vs xs → DAll g vs (xs.map D.int)
  | _, _, .nil => .nil
  | _, _, .cons _ _ r => .cons (.int _ _) (ints_at r)
theorem law_end {prog : Program} {w : World} {s₁ : Shared} {h₁ : Heap} {tk₁ : Nat} {m : Str → Option Value} {a : Addr} {cd : Value} {p : Program} {loose : List Str} {mean : ExcName → Option Value} {mg mb : Str → Option Value} {ws : List Value} {xs : List Int} {lst : Addr} {o1 o2 o3 o4 o5 : Obj} {v1 v2 v3 v4 v5 : Option Value}
    (X : (frag w.params).In (ghostOf s₁.heap [(153, 149)])) (T : Top p loose mean mg mb (ghostOf s₁.heap [(153, 149)])) (C : CodeHd (ghostOf s₁.heap [(153, 149)]) 153 149) (h149 : s₁.heap.get? 149 = some (tabObj #[]))
    (F : Fr (ghostOf s₁.heap [(153, 149)]) s₁.heap.objs.size h₁ m)
    (N : News (ghostOf s₁.heap [(153, 149)]) s₁.heap.objs.size h₁ [(s₁.heap.objs.size + 1 + 1 + 1 + 1 + 1, o1), (s₁.heap.objs.size + 1 + 1 + 1 + 1, o2), (s₁.heap.objs.size + 1 + 1 + 1, o3), (s₁.heap.objs.size + 1 + 1, o4), (s₁.heap.objs.size + 1, o5), (149, tabObj #[])])
    (d1 : o1.data = .cell v1) (d2 : o2.data = .cell v2) (d3 : o3.data = .cell v3) (d4 : o4.data = .cell v4) (d5 : o5.data = .cell v5)
    (hL : (ghostOf s₁.heap [(153, 149)]).IsList lst ws.toArray) (hI : IntsAre ws xs) (hm : m (Str.ofString "script") = some (.ref lst)) (hx : xs.length ≤ 63)
    {Q : Flow → Shared → Prop} {E : Value → Shared → Prop} (hQ : ∀ h' tk, (∀ b o, (ghostOf s₁.heap [(153, 149)]).get? b = some o → h'.get? b = some o) → (∃ ps, h'.get? 149 = some (tabObj ps)) → Q (.ret (.bool true)) { s₁ with heap := h', toks := tk }) :
    wpAny (model prog w) (callerA.deeper (lawEnv s₁.heap.objs.size a cd)) (execs lawBody (lawEnv s₁.heap.objs.size a cd)) Q E { s₁ with heap := h₁, toks := tk₁ } := by
  have hN : ∀ q, q ∈ [(s₁.heap.objs.size + 1 + 1 + 1 + 1 + 1, o1), (s₁.heap.objs.size + 1 + 1 + 1 + 1, o2), (s₁.heap.objs.size + 1 + 1 + 1, o3), (s₁.heap.objs.size + 1 + 1, o4), (s₁.heap.objs.size + 1, o5), (149, tabObj #[])] → h₁.get? q.1 = some q.2 := fun q hq => (N q hq).1
  have n149 : h₁.get? 149 = some (tabObj #[]) := hN (149, tabObj #[]) (by simp)
  have gno : ∀ b o, (ghostOf s₁.heap [(153, 149)]).get? b = some o → b ≠ 149 := fun b o e q => by
    have := hide_out e
    simp at this
    exact this q
  have tab : ∀ h : Heap, h.get? 149 = some (tabObj #[]) → TabOk h := fun h e => ⟨#[], e, trivial, .inl rfl, .inl rfl⟩
  have keep : ∀ b o, b ≠ 149 → s₁.heap.get? b = some o → h₁.get? b = some o := fun b o n e => F.keep b o (hideAll_get _ e (by simpa using n))
  have Wd0 : Wd s₁.heap.objs.size w s₁.heap := ⟨⟨_, p, loose, mean, mg, mb, fun b o e => of_hideAll _ e, X, T, C, hideAll_none _ (by simp), Nat.le_of_eq (hideAll_size _ _)⟩, tab _ h149⟩
  have fresh : ∀ k, s₁.heap.get? (s₁.heap.objs.size + k) = none := fun k => Heap.get?_none_of_le (Nat.le_add_right _ _)
  have cells : ∀ x c, (lawEnv s₁.heap.objs.size a cd).cells.lookup x = some c → (∃ v, h₁.IsCell c v) ∧ s₁.heap.get? c = none := fun x c e => by
    have hm := mem_of_lookup e
    have hm : (x, c) ∈ [(Str.ofString "found", s₁.heap.objs.size + 1 + 1 + 1 + 1 + 1), (Str.ofString "ends", s₁.heap.objs.size + 1 + 1 + 1 + 1), (Str.ofString "tape", s₁.heap.objs.size + 1 + 1 + 1), (Str.ofString "cells", s₁.heap.objs.size + 1 + 1), (Str.ofString "drawn", s₁.heap.objs.size + 1)] := hm
    simp only [List.mem_cons, List.not_mem_nil, or_false, Prod.mk.injEq] at hm
    rcases hm with ⟨_, rfl⟩ | ⟨_, rfl⟩ | ⟨_, rfl⟩ | ⟨_, rfl⟩ | ⟨_, rfl⟩
    · exact ⟨⟨_, o1, hN (_, o1) (by simp), d1⟩, fresh 5⟩
    · exact ⟨⟨_, o2, hN (_, o2) (by simp), d2⟩, fresh 4⟩
    · exact ⟨⟨_, o3, hN (_, o3) (by simp), d3⟩, fresh 3⟩
    · exact ⟨⟨_, o4, hN (_, o4) (by simp), d4⟩, fresh 2⟩
    · exact ⟨⟨_, o5, hN (_, o5) (by simp), d5⟩, fresh 1⟩
  have H : EnvOk (lawEnv s₁.heap.objs.size a cd) := ⟨rfl, rfl, rfl, cellsFrom_inj (L := s₁.heap.objs.size) (names := lawScope.names) (n := s₁.heap.objs.size + 1) (acc := []) (fun x c e => by cases e) (fun x y c _ e _ => by cases e)⟩
  have FS0 : FS s₁.heap.objs.size w (lawEnv s₁.heap.objs.size a cd) { h₀ := s₁.heap, T₀ := [], T := [], σ := [(Str.ofString "script", .list (xs.map D.int))], own := none } h₁ := by
    refine ⟨Wd0, tab _ n149, fun b o n e => .inl (keep b o n e), (fun b hb => by cases hb), (fun b hb => by cases hb), fresh 0, fun x c e => ⟨(cells x c e).1, fun _ _ => (cells x c e).2⟩, m, F.ns, fun y d hy => ?_, fun y b ds e => by cases e⟩
    have := List.mem_singleton.mp (mem_of_lookup hy)
    cases this
    refine ⟨.ref lst, .loc rfl hm, .ofList (vs := ws.toArray) ?_ (by simp) ?_⟩
    · obtain ⟨o, e, r⟩ := hL
      exact ⟨o, F.keep _ _ e, r⟩
    · show DAll _ ws _
      exact ints_at hI
  have R : Room 6 (callerA.deeper (lawEnv s₁.heap.objs.size a cd)) := ⟨rfl, by show 1 + 300 + 1 + 6 ≤ 900; decide, by show 4 + 3 + 20 * 6 ≤ 9000; decide⟩
  refine wpAny_mono ((law_0 (b0 := s₁.heap.objs.size) (prog := prog) (w := w) (h₀ := s₁.heap) (xs := xs) H R (Around.frames_deeper rfl) (Nat.le_refl _) hx).go { s₁ with heap := h₁, toks := tk₁ } FS0) (fun f s₂ q => ?_) fun _ _ x => x.elim
  have key : ∀ f', f = f' → Same { s₁ with heap := h₁, toks := tk₁ } s₂ → (∃ v, f' = .ret v ∧ Grow s₁.heap.objs.size s₁.heap s₂.heap ∧ DAt (vw [] s₂.heap) v (.bool true)) → Q f s₂ := by
    rintro f' rfl ⟨h', tk, rfl⟩ ⟨v, rfl, g, d⟩
    cases d
    refine hQ h' tk (fun b o e => ?_) ?_
    · exact (g.1 b o (gno b o e) (of_hideAll _ e)).lo (by have := Heap.lt_size e; rwa [hideAll_size] at this)
    · obtain ⟨ps, e, _⟩ := g.2 (tab _ h149)
      exact ⟨ps, e⟩
  cases f with
  | next => exact key .next rfl q.1 q.2
  | brk => exact key .brk rfl q.1 q.2
  | cont => exact key .cont rfl q.1 q.2
  | ret v => exact key (.ret v) rfl q.1 q.2

end Mine
open PySem PySem.W PyProof.Rows
set_option maxHeartbeats 8000000 in
theorem PySem.Challenge.cw_pm0025_01_holds : PySem.Challenge.rw_pm0025_01.Holds := by
  w_on
  refine holds_law Mine.said fun said => ?_
  refine holds_open (q := Mine.view) (loose := Mine.loose) (Xt := fun s => xlAt Mine.view [] s && recOk PySem.Challenge.rw_pm0025_01.row.records s) (XP := XL Mine.view []) (Yf := (kmHook Mine.frag Mine.addrs Mine.addrs_eq [149]).obs) (Ya := (kmHook Mine.frag Mine.addrs Mine.addrs_eq [149]).val) (YP := (kmHook Mine.frag Mine.addrs Mine.addrs_eq [149]).says) (N := 2004) Mine.left (kmHook Mine.frag Mine.addrs Mine.addrs_eq [149]).of (kmHook Mine.frag Mine.addrs Mine.addrs_eq [149]).keeps (fun s e => xl_of s (Bool.and_eq_true_iff.mp e).1) XL.keeps (by rfl) (by rfl) (by rfl) (fun s e => recFacts_of (Bool.and_eq_true_iff.mp e).2) (by rfl) said (by decide +kernel) ⟨rfl, rfl, rfl, rfl, rfl, by decide +kernel⟩ ?hw ?hc
  case hw => w_witness2
  k_go0
  refine Mine.law_end (by assumption) (by assumption) codeHd (hT8 149 (by simp)) (by assumption) (by assumption) (by assumption) (by assumption) (by assumption) (by assumption) (by assumption) lifted (by assumption) rfl (by omega) (fun h' tk hk hg => ⟨Mine.good_end hk rfl (by assumption) (raisesW_false (by wrow_none_raised)) ?_, hg, trivial⟩)
  first | (refine postW_of (by wrow_shape) (w_eq_bool (w_res rfl) w_lit) ?_) | (refine postW_of (by wrow_shape) (by wtm_val) ?_)
  w_fin
