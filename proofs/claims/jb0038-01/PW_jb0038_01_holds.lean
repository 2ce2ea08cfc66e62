import PyProof.Rows.All
import Wide.All
import OpenK.AllK
import Wide.FinOn
import PySem.Challenge.RW_jb0038_01
set_option Elab.async false
set_option compiler.extract_closed false

-- part JTop
section
open PySem PySem.W PyProof.Rows
namespace Mine
set_option maxRecDepth 100000
set_option maxHeartbeats 8000000
set_option linter.unusedVariables false
/-- powers of the generator, and their logarithms -/
noncomputable def expT : List Nat := @Nat.rec (fun _ => Nat → List Nat) (fun v => [v]) (fun _ ih v => v :: ih ((v * 2) ^^^ (v / 128 * 283) ^^^ v)) 254 1
noncomputable def logN (v : Nat) : Nat := (@List.rec Nat (fun _ => Nat) 0 (fun a _ i => @Bool.rec (fun _ => Nat) (i + 1) 0 (Nat.beq a v)) expT) % 255
namespace hd
abbrev stm (i : Nat) : Option Stmt := PySem.Challenge.pw_jb0038_01.main.body[i]?
noncomputable def k2 : Params → Obj := fun P => { cls := .none, data := .dict #[⟨PyData.keyHash P (Str.ofString "type.__subclasses__.Exception.0"), .str (Str.ofString "type.__subclasses__.Exception.0") 212, .int 31 0⟩, ⟨PyData.keyHash P (Str.ofString "type.__subclasses__.Exception.n"), .str (Str.ofString "type.__subclasses__.Exception.n") 213, .int 1 0⟩] 2 }
noncomputable def k3 : Params → Obj := fun P => { cls := .type "dict", data := .dict #[⟨PyData.keyHash P (Str.ofString "__name__"), .str (Str.ofString "__name__") 165, .str (Str.ofString "law_jb0038_01") 923⟩, ⟨PyData.keyHash P (Str.ofString "__doc__"), .str (Str.ofString "__doc__") 166, .none⟩, ⟨PyData.keyHash P (Str.ofString "__package__"), .str (Str.ofString "__package__") 167, .none⟩, ⟨PyData.keyHash P (Str.ofString "__loader__"), .str (Str.ofString "__loader__") 168, .builtin "__main__.__loader__#opaque"⟩, ⟨PyData.keyHash P (Str.ofString "__spec__"), .str (Str.ofString "__spec__") 169, .none⟩, ⟨PyData.keyHash P (Str.ofString "__annotations__"), .str (Str.ofString "__annotations__") 170, .ref 6⟩, ⟨PyData.keyHash P (Str.ofString "__builtins__"), .str (Str.ofString "__builtins__") 171, .ref 4⟩, ⟨PyData.keyHash P (Str.ofString "__file__"), .str (Str.ofString "__file__") 173, .str (Str.ofString "/claim/cut.py") 172⟩, ⟨PyData.keyHash P (Str.ofString "__cached__"), .str (Str.ofString "__cached__") 174, .none⟩, ⟨PyData.keyHash P (Str.ofString "_wall"), .str (Str.ofString "_wall") 193, .ref 21⟩, ⟨PyData.keyHash P (Str.ofString "MnemonicError"), .str (Str.ofString "MnemonicError") 215, .ref 31⟩, ⟨PyData.keyHash P (Str.ofString "_tuplegetter"), .str (Str.ofString "_tuplegetter") 274, .ref 73⟩, ⟨PyData.keyHash P (Str.ofString "RawShare"), .str (Str.ofString "RawShare") 389, .ref 145⟩, ⟨PyData.keyHash P (Str.ofString "_EXP_TABLE_00"), .str (Str.ofString "_EXP_TABLE_00") 518, .ref 149⟩, ⟨PyData.keyHash P (Str.ofString "_EXP_TABLE_01"), .str (Str.ofString "_EXP_TABLE_01") 646, .ref 150⟩, ⟨PyData.keyHash P (Str.ofString "EXP_TABLE"), .str (Str.ofString "EXP_TABLE") 647, .ref 151⟩, ⟨PyData.keyHash P (Str.ofString "_LOG_TABLE_00"), .str (Str.ofString "_LOG_TABLE_00") 776, .ref 152⟩, ⟨PyData.keyHash P (Str.ofString "_LOG_TABLE_01"), .str (Str.ofString "_LOG_TABLE_01") 905, .ref 153⟩, ⟨PyData.keyHash P (Str.ofString "LOG_TABLE"), .str (Str.ofString "LOG_TABLE") 906, .ref 154⟩, ⟨PyData.keyHash P (Str.ofString "_interpolate"), .str (Str.ofString "_interpolate") 922, .ref 161⟩, ⟨PyData.keyHash P (Str.ofString "_law_ones"), .str (Str.ofString "_law_ones") 930, .ref 168⟩, ⟨PyData.keyHash P (Str.ofString "_law_spread"), .str (Str.ofString "_law_spread") 932, .int 16395309179817738009521987751666139093583423331470737840399399094199505546377 931⟩, ⟨PyData.keyHash P (Str.ofString "_law_number"), .str (Str.ofString "_law_number") 940, .ref 175⟩, ⟨PyData.keyHash P (Str.ofString "_law_octets"), .str (Str.ofString "_law_octets") 948, .ref 182⟩, ⟨PyData.keyHash P (Str.ofString "_law_times"), .str (Str.ofString "_law_times") 958, .ref 189⟩, ⟨PyData.keyHash P (Str.ofString "_law_value"), .str (Str.ofString "_law_value") 968, .ref 196⟩, ⟨PyData.keyHash P (Str.ofString "law"), .str (Str.ofString "law") 974, .ref 201⟩] 27 }
noncomputable def k30 : Params → Obj := fun P => { cls := .type "dict", data := .dict #[⟨PyData.keyHash P (Str.ofString "__module__"), .str (Str.ofString "__module__") 203, .str (Str.ofString "shamir_mnemonic.utils") 194⟩, ⟨PyData.keyHash P (Str.ofString "__firstlineno__"), .str (Str.ofString "__firstlineno__") 207, .int 5 206⟩, ⟨PyData.keyHash P (Str.ofString "__static_attributes__"), .str (Str.ofString "__static_attributes__") 208, .ref 29⟩, ⟨PyData.keyHash P (Str.ofString "__weakref__"), .str (Str.ofString "__weakref__") 210, .ref 32⟩, ⟨PyData.keyHash P (Str.ofString "__doc__"), .str (Str.ofString "__doc__") 211, .none⟩] 3 }
noncomputable def k31 : Params → Obj := fun P => { cls := .type "type", data := .cls { name := Str.ofString "MnemonicError", bases := [.type "Exception"], mro := [.ref 31, .type "Exception", .type "BaseException", .type "object"], ns := 30, qualname := Str.ofString "MnemonicError" }, slots := #[some (.ref 22), none, some (.str (Str.ofString "MnemonicError") 196), some (.str (Str.ofString "MnemonicError") 204), some (.builtin "Exception.__new__"), some (.bool true)] }
noncomputable def k49 : Params → Obj := fun P => { cls := .type "tuple", data := .seq #[.none] }
noncomputable def k55 : Params → Obj := fun P => { cls := .type "code", data := .fields #[.str (Str.ofString "__get__") 239, .str (Str.ofString "_tuplegetter.__get__") 240, .str (Str.ofString "/claim/cut.py") 241, .int 14 0, .int 3 0, .int 0 0, .int 0 0, .int 3 0, .ref 50, .bool true, .int 181 0, .ref 51, .none, .ref 52, .ref 53, .ref 54, .int 245 0, .int 14 0, .str (Str.ofString "/claim/cut.py") 246] }
noncomputable def k56 : Params → Obj := by
  refine (?f : ∀ c1 c2 c3 c4 c5 c6 c7 c8 c9 c10 b0 br nm ps bd dl rt tp sc ts bn po, (stm 4) = some (.ClassDef c1 c2 c3 (b0 :: .FunctionDef nm ps bd dl rt tp sc ts bn po :: br) c4 c5 c6 c7 c8 c9 c10) → Params → Obj) _ _ _ _ _ _ _ _ _ _ _ _ _ _ _ _ _ _ _ _ _ _ rfl
  exact fun _ _ _ _ _ _ _ _ _ _ _ _ nm ps bd _ _ _ sc _ _ _ _ _ => { cls := .type "function", data := .func { name := nm, qualname := (Str.ofString "_tuplegetter.__get__"), params := ps, body := .stmts bd, scope := sc, globals := 3, closure := [], defaults := .ref 49, kwdefaults := .none, pyModule := .str (Str.ofString "shamir_mnemonic.shamir") 216, code := .ref 55 } }
noncomputable def k72 : Params → Obj := fun P => { cls := .type "dict", data := .dict #[⟨PyData.keyHash P (Str.ofString "__module__"), .str (Str.ofString "__module__") 225, .str (Str.ofString "shamir_mnemonic.shamir") 216⟩, ⟨PyData.keyHash P (Str.ofString "__firstlineno__"), .str (Str.ofString "__firstlineno__") 229, .int 8 228⟩, ⟨PyData.keyHash P (Str.ofString "__init__"), .str (Str.ofString "__init__") 238, .ref 48⟩, ⟨PyData.keyHash P (Str.ofString "__get__"), .str (Str.ofString "__get__") 247, .ref 56⟩, ⟨PyData.keyHash P (Str.ofString "__set__"), .str (Str.ofString "__set__") 256, .ref 63⟩, ⟨PyData.keyHash P (Str.ofString "__delete__"), .str (Str.ofString "__delete__") 264, .ref 70⟩, ⟨PyData.keyHash P (Str.ofString "__static_attributes__"), .str (Str.ofString "__static_attributes__") 267, .ref 71⟩, ⟨PyData.keyHash P (Str.ofString "__dict__"), .str (Str.ofString "__dict__") 269, .ref 74⟩, ⟨PyData.keyHash P (Str.ofString "__weakref__"), .str (Str.ofString "__weakref__") 271, .ref 75⟩, ⟨PyData.keyHash P (Str.ofString "__doc__"), .str (Str.ofString "__doc__") 272, .none⟩] 4 }
noncomputable def k73 : Params → Obj := fun P => { cls := .type "type", data := .cls { name := Str.ofString "_tuplegetter", bases := [.type "object"], mro := [.ref 73, .type "object"], ns := 72, qualname := Str.ofString "_tuplegetter" }, slots := #[none, none, some (.str (Str.ofString "_tuplegetter") 218), some (.str (Str.ofString "_tuplegetter") 226), some (.builtin "object.__new__"), some (.bool true)] }
noncomputable def k78 : Params → Obj := fun P => { cls := .type "tuple", data := .seq #[.type "tuple"] }
noncomputable def k94 : Params → Obj := fun P => { cls := .type "code", data := .fields #[.str (Str.ofString "__new__") 295, .str (Str.ofString "RawShare.__new__") 296, .str (Str.ofString "/claim/cut.py") 297, .int 32 0, .int 3 0, .int 0 0, .int 0 0, .int 3 0, .ref 89, .bool true, .int 181 0, .ref 90, .none, .ref 91, .ref 92, .ref 93, .int 301 0, .int 32 0, .str (Str.ofString "/claim/cut.py") 302] }
noncomputable def k95 : Params → Obj := by
  refine (?f : ∀ c1 c2 c3 c4 c5 c6 c7 c8 c9 c10 b0 b1 b2 b3 br nm ps dc t1 p1 p2 bd dl rt tp sc ts bn po, (stm 5) = some (.ClassDef c1 c2 c3 (b0 :: b1 :: b2 :: b3 :: .FunctionDef nm ps (.Expr (.Constant (.str dc) t1 p1) p2 :: bd) dl rt tp sc ts bn po :: br) c4 c5 c6 c7 c8 c9 c10) → Params → Obj) _ _ _ _ _ _ _ _ _ _ _ _ _ _ _ _ _ _ _ _ _ _ _ _ _ _ _ _ _ rfl
  exact fun _ _ _ _ _ _ _ _ _ _ _ _ _ _ _ nm ps dc t1 p1 p2 bd _ _ _ sc _ _ _ _ _ => { cls := .type "function", data := .func { name := nm, qualname := (Str.ofString "RawShare.__new__"), params := ps, body := .stmts (.Expr (.Constant (.str dc) t1 p1) p2 :: bd), scope := sc, globals := 3, closure := [], defaults := .none, kwdefaults := .none, doc := .str dc 303, pyModule := .str (Str.ofString "shamir_mnemonic.shamir") 216, code := .ref 94 } }
noncomputable def k136 : Params → Obj := fun P => { cls := .type "dict", data := .dict #[⟨PyData.keyHash P (Str.ofString "index"), .str (Str.ofString "index") 371, .int 0 365⟩, ⟨PyData.keyHash P (Str.ofString "__doc__"), .str (Str.ofString "__doc__") 373, .str (Str.ofString "Alias for field number 0") 366⟩] 2 }
noncomputable def k137 : Params → Obj := fun P => { cls := .ref 73, dict := some 136 }
noncomputable def k139 : Params → Obj := fun P => { cls := .type "dict", data := .dict #[⟨PyData.keyHash P (Str.ofString "index"), .str (Str.ofString "index") 381, .int 1 375⟩, ⟨PyData.keyHash P (Str.ofString "__doc__"), .str (Str.ofString "__doc__") 383, .str (Str.ofString "Alias for field number 1") 376⟩] 2 }
noncomputable def k140 : Params → Obj := fun P => { cls := .ref 73, dict := some 139 }
noncomputable def k144 : Params → Obj := fun P => { cls := .type "dict", data := .dict #[⟨PyData.keyHash P (Str.ofString "__module__"), .str (Str.ofString "__module__") 282, .str (Str.ofString "shamir_mnemonic.shamir") 216⟩, ⟨PyData.keyHash P (Str.ofString "__firstlineno__"), .str (Str.ofString "__firstlineno__") 286, .int 26 285⟩, ⟨PyData.keyHash P (Str.ofString "__doc__"), .str (Str.ofString "__doc__") 288, .str (Str.ofString "RawShare(x, data)") 287⟩, ⟨PyData.keyHash P (Str.ofString "__slots__"), .str (Str.ofString "__slots__") 290, .ref 86⟩, ⟨PyData.keyHash P (Str.ofString "_fields"), .str (Str.ofString "_fields") 293, .ref 87⟩, ⟨PyData.keyHash P (Str.ofString "_field_defaults"), .str (Str.ofString "_field_defaults") 294, .ref 88⟩, ⟨PyData.keyHash P (Str.ofString "__new__"), .str (Str.ofString "__new__") 304, .ref 146⟩, ⟨PyData.keyHash P (Str.ofString "_make"), .str (Str.ofString "_make") 326, .ref 104⟩, ⟨PyData.keyHash P (Str.ofString "_replace"), .str (Str.ofString "_replace") 337, .ref 113⟩, ⟨PyData.keyHash P (Str.ofString "__replace__"), .str (Str.ofString "__replace__") 338, .ref 113⟩, ⟨PyData.keyHash P (Str.ofString "__repr__"), .str (Str.ofString "__repr__") 346, .ref 120⟩, ⟨PyData.keyHash P (Str.ofString "_asdict"), .str (Str.ofString "_asdict") 353, .ref 127⟩, ⟨PyData.keyHash P (Str.ofString "__getnewargs__"), .str (Str.ofString "__getnewargs__") 361, .ref 134⟩, ⟨PyData.keyHash P (Str.ofString "__match_args__"), .str (Str.ofString "__match_args__") 364, .ref 135⟩, ⟨PyData.keyHash P (Str.ofString "x"), .str (Str.ofString "x") 374, .ref 137⟩, ⟨PyData.keyHash P (Str.ofString "data"), .str (Str.ofString "data") 384, .ref 140⟩, ⟨PyData.keyHash P (Str.ofString "__static_attributes__"), .str (Str.ofString "__static_attributes__") 385, .ref 142⟩] 2 }
noncomputable def k145 : Params → Obj := fun P => { cls := .type "type", data := .cls { name := Str.ofString "RawShare", bases := [.type "tuple"], mro := [.ref 145, .type "tuple", .type "object"], ns := 144, qualname := Str.ofString "RawShare", hasDict := false }, slots := #[some (.ref 78), none, some (.str (Str.ofString "RawShare") 275), some (.str (Str.ofString "RawShare") 283), some .none, some (.bool false)] }
noncomputable def k146 : Params → Obj := fun P => { cls := .type "staticmethod", data := .fields #[.ref 95] }
noncomputable def k151 : Params → Obj := fun P => { cls := .type "list", data := .seq (@List.rec Nat (fun _ => Nat → List Value) (fun _ => []) (fun a _ f k => .int (a : Nat) (390 + k + k / 128) :: f (k + 1)) expT 0).toArray }
noncomputable def k154 : Params → Obj := fun P => { cls := .type "list", data := .seq (@Nat.rec (fun _ => Nat → List Value) (fun _ => []) (fun _ f k => .int (logN k : Nat) (648 + k + k / 128) :: f (k + 1)) 256 0).toArray }
noncomputable def k160 : Params → Obj := fun P => { cls := .type "code", data := .fields #[.str (Str.ofString "_interpolate") 907, .str (Str.ofString "_interpolate") 908, .str (Str.ofString "/claim/cut.py") 909, .int 74 0, .int 2 0, .int 0 0, .int 0 0, .int 3 0, .ref 155, .bool true, .int 181 0, .ref 156, .none, .ref 157, .ref 158, .ref 159, .int 919 0, .int 74 0, .str (Str.ofString "/claim/cut.py") 920] }
noncomputable def k161 : Params → Obj := by
  refine (?f : ∀ nm ps dc t1 p1 p2 bd dl rt tp sc ts bn po, (stm 12) = some (.FunctionDef nm ps (.Expr (.Constant (.str dc) t1 p1) p2 :: bd) dl rt tp sc ts bn po) → Params → Obj) _ _ _ _ _ _ _ _ _ _ _ _ _ _ rfl
  exact fun nm ps dc t1 p1 p2 bd _ _ _ sc _ _ _ _ _ => { cls := .type "function", data := .func { name := nm, qualname := nm, params := ps, body := .stmts (.Expr (.Constant (.str dc) t1 p1) p2 :: bd), scope := sc, globals := 3, closure := [], defaults := .none, kwdefaults := .none, doc := .str dc 921, pyModule := .str (Str.ofString "shamir_mnemonic.shamir") 216, code := .ref 160 } }
noncomputable def k167 : Params → Obj := fun P => { cls := .type "code", data := .fields #[.str (Str.ofString "_law_ones") 925, .str (Str.ofString "_law_ones") 926, .str (Str.ofString "/claim/cut.py") 927, .int 101 0, .int 0 0, .int 0 0, .int 0 0, .int 3 0, .ref 162, .bool true, .int 181 0, .ref 163, .none, .ref 164, .ref 165, .ref 166, .int 928 0, .int 101 0, .str (Str.ofString "/claim/cut.py") 929] }
noncomputable def k168 : Params → Obj := by
  refine (?f : ∀ nm ps bd dl rt tp sc ts bn po, (stm 14) = some (.FunctionDef nm ps bd dl rt tp sc ts bn po) → Params → Obj) _ _ _ _ _ _ _ _ _ _ rfl
  exact fun nm ps bd _ _ _ sc _ _ _ _ _ => { cls := .type "function", data := .func { name := nm, qualname := nm, params := ps, body := .stmts bd, scope := sc, globals := 3, closure := [], defaults := .none, kwdefaults := .none, pyModule := .str (Str.ofString "law_jb0038_01") 923, code := .ref 167 } }
noncomputable def k174 : Params → Obj := fun P => { cls := .type "code", data := .fields #[.str (Str.ofString "_law_number") 933, .str (Str.ofString "_law_number") 934, .str (Str.ofString "/claim/cut.py") 935, .int 104 0, .int 2 0, .int 0 0, .int 0 0, .int 3 0, .ref 169, .bool true, .int 181 0, .ref 170, .none, .ref 171, .ref 172, .ref 173, .int 938 0, .int 104 0, .str (Str.ofString "/claim/cut.py") 939] }
noncomputable def k175 : Params → Obj := by
  refine (?f : ∀ nm ps bd dl rt tp sc ts bn po, (stm 16) = some (.FunctionDef nm ps bd dl rt tp sc ts bn po) → Params → Obj) _ _ _ _ _ _ _ _ _ _ rfl
  exact fun nm ps bd _ _ _ sc _ _ _ _ _ => { cls := .type "function", data := .func { name := nm, qualname := nm, params := ps, body := .stmts bd, scope := sc, globals := 3, closure := [], defaults := .none, kwdefaults := .none, pyModule := .str (Str.ofString "law_jb0038_01") 923, code := .ref 174 } }
noncomputable def k181 : Params → Obj := fun P => { cls := .type "code", data := .fields #[.str (Str.ofString "_law_octets") 941, .str (Str.ofString "_law_octets") 942, .str (Str.ofString "/claim/cut.py") 943, .int 106 0, .int 2 0, .int 0 0, .int 0 0, .int 3 0, .ref 176, .bool true, .int 181 0, .ref 177, .none, .ref 178, .ref 179, .ref 180, .int 946 0, .int 106 0, .str (Str.ofString "/claim/cut.py") 947] }
noncomputable def k182 : Params → Obj := by
  refine (?f : ∀ nm ps bd dl rt tp sc ts bn po, (stm 17) = some (.FunctionDef nm ps bd dl rt tp sc ts bn po) → Params → Obj) _ _ _ _ _ _ _ _ _ _ rfl
  exact fun nm ps bd _ _ _ sc _ _ _ _ _ => { cls := .type "function", data := .func { name := nm, qualname := nm, params := ps, body := .stmts bd, scope := sc, globals := 3, closure := [], defaults := .none, kwdefaults := .none, pyModule := .str (Str.ofString "law_jb0038_01") 923, code := .ref 181 } }
noncomputable def k188 : Params → Obj := fun P => { cls := .type "code", data := .fields #[.str (Str.ofString "_law_times") 949, .str (Str.ofString "_law_times") 950, .str (Str.ofString "/claim/cut.py") 951, .int 108 0, .int 2 0, .int 0 0, .int 0 0, .int 3 0, .ref 183, .bool true, .int 181 0, .ref 184, .none, .ref 185, .ref 186, .ref 187, .int 956 0, .int 108 0, .str (Str.ofString "/claim/cut.py") 957] }
noncomputable def k189 : Params → Obj := by
  refine (?f : ∀ nm ps bd dl rt tp sc ts bn po, (stm 18) = some (.FunctionDef nm ps bd dl rt tp sc ts bn po) → Params → Obj) _ _ _ _ _ _ _ _ _ _ rfl
  exact fun nm ps bd _ _ _ sc _ _ _ _ _ => { cls := .type "function", data := .func { name := nm, qualname := nm, params := ps, body := .stmts bd, scope := sc, globals := 3, closure := [], defaults := .none, kwdefaults := .none, pyModule := .str (Str.ofString "law_jb0038_01") 923, code := .ref 188 } }
noncomputable def k195 : Params → Obj := fun P => { cls := .type "code", data := .fields #[.str (Str.ofString "_law_value") 959, .str (Str.ofString "_law_value") 960, .str (Str.ofString "/claim/cut.py") 961, .int 117 0, .int 2 0, .int 0 0, .int 0 0, .int 3 0, .ref 190, .bool true, .int 181 0, .ref 191, .none, .ref 192, .ref 193, .ref 194, .int 966 0, .int 117 0, .str (Str.ofString "/claim/cut.py") 967] }
noncomputable def k196 : Params → Obj := by
  refine (?f : ∀ nm ps bd dl rt tp sc ts bn po, (stm 19) = some (.FunctionDef nm ps bd dl rt tp sc ts bn po) → Params → Obj) _ _ _ _ _ _ _ _ _ _ rfl
  exact fun nm ps bd _ _ _ sc _ _ _ _ _ => { cls := .type "function", data := .func { name := nm, qualname := nm, params := ps, body := .stmts bd, scope := sc, globals := 3, closure := [], defaults := .none, kwdefaults := .none, pyModule := .str (Str.ofString "law_jb0038_01") 923, code := .ref 195 } }
noncomputable def heap_39 : Params → Frag := fun P => (nat_lit 2, k2 P) :: (nat_lit 3, k3 P) :: (nat_lit 30, k30 P) :: (nat_lit 31, k31 P) :: (nat_lit 49, k49 P) :: (nat_lit 55, k55 P) :: (nat_lit 56, k56 P) :: (nat_lit 72, k72 P) :: (nat_lit 73, k73 P) :: (nat_lit 78, k78 P) :: (nat_lit 94, k94 P) :: (nat_lit 95, k95 P) :: (nat_lit 136, k136 P) :: (nat_lit 137, k137 P) :: (nat_lit 139, k139 P) :: (nat_lit 140, k140 P) :: (nat_lit 144, k144 P) :: (nat_lit 145, k145 P) :: (nat_lit 146, k146 P) :: (nat_lit 151, k151 P) :: (nat_lit 154, k154 P) :: (nat_lit 160, k160 P) :: (nat_lit 161, k161 P) :: (nat_lit 167, k167 P) :: (nat_lit 168, k168 P) :: (nat_lit 174, k174 P) :: (nat_lit 175, k175 P) :: (nat_lit 181, k181 P) :: (nat_lit 182, k182 P) :: (nat_lit 188, k188 P) :: (nat_lit 189, k189 P) :: (nat_lit 195, k195 P) :: (nat_lit 196, k196 P) :: []
end hd
end Mine
end

-- part JA
section
open PySem PySem.W PySem.Calls PyProof.Rows
namespace Mine
set_option maxRecDepth 100000
set_option maxHeartbeats 4000000

theorem fill0 (w : World) (h : Heap) : (hd.heap_39 w.params).In h → PySem.Challenge.rw_jb0038_01.row.prog = PySem.Challenge.rw_jb0038_01.row.prog := by
  k_fill
  exact fun _ => rfl

/-- what _law_number gives -/
noncomputable def numAt (ns : List Int) (k : Int) : Int := (if 0 < ns.length then ns.getD (k.fmod (ns.length : Int)).toNat 0 else 0) + 7 * k

/-- the octets of n mod 256 ^ z, the highest first -/
noncomputable def octets (n : Int) (z : Nat) : Array UInt8 := ((KTBy.little z (n % 256 ^ z)).reverse.map fun i => i.toNat.toUInt8).toArray

theorem octets_of {n : Int} {z : Nat} {b : Array UInt8} (h : KBw.bInts b = (KTBy.little z (n % 256 ^ z)).reverse) : b = octets n z := by
  unfold octets; rw [← h]
  unfold KBw.bInts
  apply Array.ext'
  simp only [List.map_map]
  show b.toList = b.toList.map _
  symm
  rw [List.map_congr_left (g := id), List.map_id]
  intro c _
  show ((c.toNat : Int).toNat).toUInt8 = c
  simp

section
variable {w : World} {p : Program} {loose : List Str} {mean : ExcName → Option Value} {mg mb : Str → Option Value} {dp un : Nat} {gd : Option (List Code)} {cn : Str} {cs : Scope} {a : Addr} {ccd : Value} {cl : List (Str × Addr)} {outer : List Env} {A₀ : Around} {base h₀ : Heap} {L : Addr} {m : Str → Option Value} {news : List (Addr × Obj)} {s : Shared} {Q E : Value → Shared → Prop}

theorem number_c {l : Addr} {vs : List Value} {ns : List Int} {k : Int} {tp : Tok}
    (B : Below A₀ base outer h₀) (F : Fr h₀ L s.heap m) (X : (hd.heap_39 w.params).In h₀) (N : News h₀ L s.heap news) (T : Top p loose mean mg mb h₀) (hk : cs.kind = .function)
    (hl : base.IsList l vs.toArray) (hi : IntsAre vs ns) (hn : ns.length < 2 ^ 62) (h0 : 0 ≤ k) (hd9 : dp + 1 < recursionLimit) (hu9 : un + 8 < cLine)
    (hret : ∀ (t : Tok) (h' : Heap) (tk' : Nat), Fr h₀ L h' m → News h₀ L h' news → Q (.int (numAt ns k) t) { s with heap := h', toks := tk' }) :
    wpAny (model PySem.Challenge.rw_jb0038_01.row.prog w) (ktrTop dp un gd cn cs L a ccd cl outer) (PySem.call (.ref 175) [.ref l, .int k tp]) Q E s := by
  refine wpAny_call ?_
  k_dflt cell_enter
  k_steps
  · refine cb_retI hret ?_ (by assumption) (by assumption)
    unfold numAt; rw [if_pos (by assumption)]
  · refine cb_retI hret ?_ (by assumption) (by assumption)
    unfold numAt; rw [if_neg (by assumption)]

theorem octets_c {n : Int} {z : Nat} {tn tz : Tok}
    (B : Below A₀ base outer h₀) (F : Fr h₀ L s.heap m) (X : (hd.heap_39 w.params).In h₀) (N : News h₀ L s.heap news) (T : Top p loose mean mg mb h₀) (hk : cs.kind = .function)
    (h1 : 1 ≤ z) (h2 : z ≤ 4) (hd9 : dp + 1 < recursionLimit) (hu9 : un + 8 < cLine)
    (hret : ∀ (t : Tok) (h' : Heap) (tk' : Nat), Fr h₀ L h' m → News h₀ L h' news → Q (.bytes (octets n z) t) { s with heap := h', toks := tk' }) :
    wpAny (model PySem.Challenge.rw_jb0038_01.row.prog w) (ktrTop dp un gd cn cs L a ccd cl outer) (PySem.call (.ref 182) [.int n tn, .int (z : Int) tz]) Q E s := by
  refine wpAny_call ?_
  k_dflt cell_enter
  k_steps
  have hp : (0 : Int) < 256 ^ z := Int.pow_pos (by decide)
  have he : n.fmod (256 ^ ((z : Int)).toNat) = n % 256 ^ z := by
    rw [Int.toNat_natCast, Int.fmod_eq_emod_of_nonneg _ (Int.le_of_lt hp)]
  rw [he]
  with_unfolding_all refine KTBy.to_big (k := z) (B := (256:Int)^z) (Nat.le_trans h2 (by decide)) rfl (Int.emod_nonneg _ (Int.ne_of_gt hp)) (Int.emod_lt_of_pos _ hp) ?_
  intro b t9 k9 hb _
  have hb' := octets_of hb
  subst hb'
  k_steps
  exact hret _ _ _ (by assumption) (by assumption)

theorem ones_c 
    (B : Below A₀ base outer h₀) (F : Fr h₀ L s.heap m) (X : (hd.heap_39 w.params).In h₀) (N : News h₀ L s.heap news) (T : Top p loose mean mg mb h₀) (hk : cs.kind = .function)
    (hd9 : dp + 1 < recursionLimit) (hu9 : un + 8 < cLine)
    (hret : ∀ (t : Tok) (h' : Heap) (tk' : Nat), Fr h₀ L h' m → News h₀ L h' news → Q (.int 65793 t) { s with heap := h', toks := tk' }) :
    wpAny (model PySem.Challenge.rw_jb0038_01.row.prog w) (ktrTop dp un gd cn cs L a ccd cl outer) (PySem.call (.ref 168) []) Q E s := by
  refine wpAny_call ?_
  k_dflt cell_enter
  k_steps
  exact hret _ _ _ (by assumption) (by assumption)
end
theorem ones_name (w : World) : nsIn (hd.heap_39 w.params) mainGlobals (Str.ofString "_law_ones") = some (some (.ref 168)) := by kernel_rfl
theorem times_name (w : World) : nsIn (hd.heap_39 w.params) mainGlobals (Str.ofString "_law_times") = some (some (.ref 189)) := by kernel_rfl
theorem ones_keep (w : World) : keepIn (hd.heap_39 w.params) (.ref 168) = true := by kernel_rfl
theorem times_keep (w : World) : keepIn (hd.heap_39 w.params) (.ref 189) = true := by kernel_rfl
section
variable {w : World} {p : Program} {loose : List Str} {mean : ExcName → Option Value} {mg mb : Str → Option Value} {A : Around} {s : Shared} {Q E : Value → Shared → Prop} {cenv : Env}
theorem el_global {x : Str} {v : Value} {ps : Pos} (X : (hd.heap_39 w.params).In s.heap) (T : Top p loose mean mg mb s.heap) (hk : cenv.scope.kind = .function) (hg : cenv.globals = mainGlobals) (hl : cenv.kindOf x = some .globalImplicit)
    (e : nsIn (hd.heap_39 w.params) mainGlobals x = some (some v)) (h : Q v s) (hd : (x == ("__debug__" : Str)) = false) :
    wpAny (model PySem.Challenge.rw_jb0038_01.row.prog w) A (eval (.Name x ps) cenv) Q E s :=
  Name_function_global hk hl (loadGlobal_global (by rw [hg]; exact T.g) (mg_of X T.g e) h) hd

end
section
variable {M : Model} {A : Around} {E : Value → Shared → Prop} {s : Shared} {env : Env}
/-- a statement with what follows it kept out of sight -/
theorem exec_cut {st : Stmt} {rest : List Stmt} {Q : Flow → Shared → Prop} (h : ∀ Q1 : Flow → Shared → Prop, (∀ s', wpAny M A (execs rest env) Q E s' → Q1 .next s') → wpAny M A (exec st env) Q1 E s) : wpAny M A (execs (st :: rest) env) Q E s :=
  wpAny_execs_cons (h _ fun _ h => h)
theorem cut_here {t : Sem Flow} {Q0 : Flow → Shared → Prop} (h : ∀ Q1 : Flow → Shared → Prop, (∀ f s', Q0 f s' → Q1 f s') → wpAny M A t Q1 E s) : wpAny M A t Q0 E s := h Q0 fun _ _ h => h
theorem cutQE {t : Sem Flow} {Q : Flow → Shared → Prop} (hP : PassesOwn M A env E) (hP2 : ∀ e, PassesOwnAt M (A.mark (some (.ref e))) A env E) (h : ∀ (Q1 : Flow → Shared → Prop) (E1 : Value → Shared → Prop), PassesOwn M A env E1 → (∀ e, PassesOwnAt M (A.mark (some (.ref e))) A env E1) → (∀ v s', Q (.ret v) s' → Q1 (.ret v) s') → wpAny M A t Q1 E1 s) : wpAny M A t Q E s :=
  h Q E hP hP2 fun _ _ h => h
end
section
variable {M : Model} {A : Around} {E : Value → Shared → Prop} {s : Shared}
theorem mono_fr {t : Sem Flow} {Q : Flow → Shared → Prop} {g h : Heap} {L : Addr} {m : Str → Option Value} (_F : Fr g L h m) (P : Heap → Addr → Shared → Prop) (h1 : wpAny M A t (fun f s' => f = .next ∧ P g L s') E s) (h2 : ∀ s', P g L s' → Q .next s') : wpAny M A t Q E s :=
  wpAny_mono h1 (fun _ s' h => h.1 ▸ h2 s' h.2) fun _ _ e => e
end
theorem fr_map {G h : Heap} {L : Addr} {m : Str → Option Value} (F : Fr G L h m) : ∃ m', m' = m ∧ Fr G L h m' := ⟨m, rfl, F⟩
/-- small facts -/
theorem room {a b c n : Nat} (h : a + b < n) (hc : c ≤ b) : a + c < n := Nat.lt_of_le_of_lt (Nat.add_le_add_left hc a) h
theorem le_of_lt_le {a b c : Nat} (h : a < b) (hc : b ≤ c) : a ≤ c := Nat.le_trans (Nat.le_of_lt h) hc
theorem nn_add {a : Int} {i : Nat} (h : 0 ≤ a) : 0 ≤ a + ((i : Nat) : Int) := Int.add_nonneg h (Int.natCast_nonneg i)
end Mine
end

-- part JBits
section
open PySem PySem.W PySem.Calls PyProof.Rows
namespace Mine
set_option maxRecDepth 100000

theorem two_bits : ∀ p q : Fin 2, (p.val ^^^ q.val) + 2 * (p.val &&& q.val) = p.val + q.val := by decide
theorem nat_xor_and (a : Nat) : ∀ b : Nat, (a ^^^ b) + 2 * (a &&& b) = a + b := by
  induction a using Nat.strongRecOn with
  | ind a ih =>
    intro b
    by_cases h : a = 0
    · subst h; simp
    · have h1 := ih (a / 2) (Nat.div_lt_self (Nat.pos_of_ne_zero h) (by decide)) (b / 2)
      have hx : (a ^^^ b) = (a % 2 ^^^ b % 2) + 2 * (a / 2 ^^^ b / 2) := by
        rw [← Nat.xor_div_two, ← Nat.xor_mod_two_pow (n := 1), Nat.mod_add_div]
      have hn : (a &&& b) = (a % 2 &&& b % 2) + 2 * (a / 2 &&& b / 2) := by
        rw [← Nat.and_div_two, ← Nat.and_mod_two_pow (n := 1), Nat.mod_add_div]
      have h2 := two_bits ⟨a % 2, Nat.mod_lt _ (by decide)⟩ ⟨b % 2, Nat.mod_lt _ (by decide)⟩
      dsimp only at h2
      have ea := Nat.mod_add_div a 2
      have eb := Nat.mod_add_div b 2
      rw [hx, hn]
      generalize a / 2 ^^^ b / 2 = X at *
      generalize a / 2 &&& b / 2 = Y at *
      generalize a % 2 ^^^ b % 2 = x at *
      generalize a % 2 &&& b % 2 = y at *
      clear hx hn ih
      generalize a / 2 = u at *
      generalize a % 2 = p at *
      generalize b / 2 = v at *
      generalize b % 2 = q at *
      rw [← ea, ← eb]
      clear ea eb h
      rw [Nat.mul_add, Nat.add_add_add_comm, ← Nat.mul_add, h2, h1, Nat.mul_add, Nat.add_add_add_comm]

theorem int_lo (n : Nat) : (-2 ^ 63 : Int) ≤ (n : Int) := Int.le_trans (by decide) (Int.natCast_nonneg n)
theorem int_hi {n : Nat} (h : n ≤ 4096) : (n : Int) < 2 ^ 63 := Int.lt_of_le_of_lt (Int.ofNat_le.mpr h) (by decide)
theorem bitAnd_nat (a b : Nat) : Builtin.bitAnd (a : Int) (b : Int) = ((a &&& b : Nat) : Int) := by
  rw [bitAnd_pp (Int.natCast_nonneg a) (Int.natCast_nonneg b)]; rfl
theorem bitXor_nat (a b : Nat) : Builtin.bitXor (a : Int) (b : Int) = ((a ^^^ b : Nat) : Int) := by
  rw [bitXor_and, bitAnd_nat]
  exact Int.sub_eq_iff_eq_add.mpr (by exact_mod_cast (nat_xor_and a b).symm)

section
variable {prog : Program} {w : World} {A : Around} {E : Value → Shared → Prop} {s : Shared} {x y k : Nat} {n : Int} {t u : Tok} {Q : Value → Shared → Prop}
theorem xorN (h : Q (.int ((x ^^^ y : Nat) : Int) s.toks) { s with toks := s.toks + 1 }) : wpAny (model prog w) A (binaryOp .BitXor (.int (x : Int) t) (.int (y : Int) u)) Q E s :=
  xor_int (by rw [bitXor_nat]; exact h)
theorem ixorN (h : Q (.int ((x ^^^ y : Nat) : Int) s.toks) { s with toks := s.toks + 1 }) : wpAny (model prog w) A (inplaceOp .BitXor (.int (x : Int) t) (.int (y : Int) u)) Q E s :=
  ixor_int (by rw [bitXor_nat]; exact h)
theorem andN (h : Q (.int ((x &&& y : Nat) : Int) s.toks) { s with toks := s.toks + 1 }) : wpAny (model prog w) A (binaryOp .BitAnd (.int (x : Int) t) (.int (y : Int) u)) Q E s :=
  and_int (by rw [bitAnd_nat]; exact h)
theorem shrN (hn : n = (k : Int)) (h : Q (.int ((x / 2 ^ k : Nat) : Int) s.toks) { s with toks := s.toks + 1 }) : wpAny (model prog w) A (binaryOp .RShift (.int (x : Int) t) (.int n u)) Q E s := by
  refine rshift_int (hn ▸ Int.natCast_nonneg k) ?_
  have e : (x : Int).fdiv (2 ^ n.toNat) = ((x / 2 ^ k : Nat) : Int) := by
    rw [hn, Int.toNat_natCast, Int.fdiv_eq_ediv_of_nonneg _ (Int.le_of_lt (Int.pow_pos (by decide)))]
    rw [Int.natCast_ediv]; simp
  rw [e]; exact h
theorem shlN (hn : n = (k : Int)) (hk : k ≤ 60) (hx : x < 2 ^ 60) (h : Q (.int ((x * 2 ^ k : Nat) : Int) s.toks) { s with toks := s.toks + 1 }) : wpAny (model prog w) A (binaryOp .LShift (.int (x : Int) t) (.int n u)) Q E s := by
  refine lshift_int_small (hn ▸ Int.natCast_nonneg k) (hn ▸ Int.le_trans (Int.ofNat_le.mpr hk) (by decide)) (Nat.lt_trans hx (by decide)) ?_
  have e : (x : Int) * 2 ^ n.toNat = ((x * 2 ^ k : Nat) : Int) := by
    rw [hn, Int.toNat_natCast]; simp
  rw [e]; exact h
end
end Mine
namespace Mine
section
open PySem PySem.W PySem.Calls PyProof.Rows
variable {prog : Program} {w : World} {A : Around} {E : Value → Shared → Prop} {s : Shared} {x y k : Nat} {n : Int} {t u : Tok} {Q : Value → Shared → Prop}
theorem mulN (hn : n = (k : Int)) (hk : k < 2 ^ 60) (h : Q (.int ((x * k : Nat) : Int) s.toks) { s with toks := s.toks + 1 }) : wpAny (model prog w) A (binaryOp .Mult (.int (x : Int) t) (.int n u)) Q E s := by
  refine mul_int ?_ (IntMulOk.of_right (intBits_le_64 (hn ▸ Int.lt_of_lt_of_le (by decide) (Int.natCast_nonneg k)) (hn ▸ Int.lt_trans (Int.ofNat_lt.mpr hk) (by decide))))
  have e : (x : Int) * n = ((x * k : Nat) : Int) := by rw [hn]; simp
  rw [e]; exact h
theorem fdivN (hn : n = (k : Int)) (hk : 0 < k) (hk2 : k < 2 ^ 20) (h : Q (.int ((x / k : Nat) : Int) s.toks) { s with toks := s.toks + 1 }) : wpAny (model prog w) A (inplaceOp .FloorDiv (.int (x : Int) t) (.int n u)) Q E s := by
  have hz : n ≠ 0 := hn ▸ Int.natCast_ne_zero.mpr (Nat.ne_of_gt hk)
  refine ifloordiv_int hz ?_ (Or.inl (PyProof.noPylong_small (hn ▸ Nat.lt_trans hk2 (by decide))))
  have e : (x : Int).fdiv n = ((x / k : Nat) : Int) := by
    rw [hn, Int.fdiv_eq_ediv_of_nonneg _ (Int.natCast_nonneg k)]; exact (Int.natCast_ediv x k).symm
  rw [e]; exact h
theorem modN (hn : n = (k : Int)) (hk : 0 < k) (h : Q (.int ((x % k : Nat) : Int) s.toks) { s with toks := s.toks + 1 }) : wpAny (model prog w) A (binaryOp .Mod (.int (x : Int) t) (.int n u)) Q E s := by
  refine mod_int' (hn ▸ Int.natCast_ne_zero.mpr (Nat.ne_of_gt hk)) ?_
  have e : (x : Int).fmod n = ((x % k : Nat) : Int) := by
    rw [hn, Int.fmod_eq_emod_of_nonneg _ (Int.natCast_nonneg k)]; exact (Int.natCast_emod x k).symm
  rw [e]; exact h
end
end Mine
end

-- part JMath
section
namespace Mine
noncomputable def dblN (a : Nat) : Nat := ((a ^^^ (((a / 2 ^ 7) &&& 65793) * 2 ^ 7)) * 2 ^ 1) ^^^ (((a / 2 ^ 7) &&& 65793) * 27)
/-- doubling in the field of 256 -/
noncomputable def xt (b : Nat) : Nat := (b * 2) ^^^ (b / 128 * 283)

theorem join_mod {x u : Nat} (hx : x < 256) : (x + 256 * u) % 256 = x := by rw [Nat.add_mul_mod_self_left, Nat.mod_eq_of_lt hx]
theorem join_div {x u : Nat} (hx : x < 256) : (x + 256 * u) / 256 = u := by rw [Nat.add_mul_div_left _ _ (by decide), Nat.div_eq_of_lt hx, Nat.zero_add]
theorem join_of {n a b : Nat} (h1 : n % 256 = a) (h2 : n / 256 = b) : n = a + 256 * b := by rw [← h1, ← h2, Nat.mod_add_div]
theorem xor_byte {x y u v : Nat} (hx : x < 256) (hy : y < 256) : (x + 256 * u) ^^^ (y + 256 * v) = (x ^^^ y) + 256 * (u ^^^ v) := by
  refine join_of ?_ ?_
  · have h := Nat.xor_mod_two_pow (a := x + 256 * u) (b := y + 256 * v) (n := 8)
    rw [show 2 ^ 8 = 256 from rfl, join_mod hx, join_mod hy] at h
    exact h
  · have h := Nat.xor_div_two_pow (a := x + 256 * u) (b := y + 256 * v) (n := 8)
    rw [show 2 ^ 8 = 256 from rfl, join_div hx, join_div hy] at h
    exact h
theorem and_byte {x y u v : Nat} (hx : x < 256) (hy : y < 256) : (x + 256 * u) &&& (y + 256 * v) = (x &&& y) + 256 * (u &&& v) := by
  refine join_of ?_ ?_
  · have h := Nat.and_mod_two_pow (a := x + 256 * u) (b := y + 256 * v) (n := 8)
    rw [show 2 ^ 8 = 256 from rfl, join_mod hx, join_mod hy] at h
    exact h
  · have h := Nat.and_div_two_pow (a := x + 256 * u) (b := y + 256 * v) (n := 8)
    rw [show 2 ^ 8 = 256 from rfl, join_div hx, join_div hy] at h
    exact h
/-- one octet: the lane doubled, and what is above it -/
theorem lane_of : ∀ x : Fin 256, (x.val / 128) < 2 ∧ x.val % 128 * 2 < 256 ∧ x.val / 128 * 128 < 256 ∧ x.val ^^^ (x.val / 128 * 128) = x.val % 128 ∧ (x.val % 128 * 2) ^^^ (x.val / 128 * 27) = xt x.val ∧ x.val / 128 * 27 < 256 ∧ xt x.val < 256 := by decide +kernel
theorem xt_lt {b : Nat} (hb : b < 256) : xt b < 256 := (lane_of ⟨b, hb⟩).2.2.2.2.2.2
theorem top_step {x r m : Nat} (hx : x < 256) : ((x + 256 * r) / 2 ^ 7) &&& (1 + 256 * m) = x / 128 + 256 * ((r / 2 ^ 7) &&& m) := by
  have e : (x + 256 * r) / 2 ^ 7 = (x / 128 + 2 * (r % 128)) + 256 * (r / 2 ^ 7) := by
    rw [show 256 * r = 2 ^ 7 * (2 * r) by rw [← Nat.mul_assoc], Nat.add_mul_div_left _ _ (by decide)]
    show x / 128 + 2 * r = x / 128 + 2 * (r % 128) + 256 * (r / 128)
    rw [Nat.add_assoc]
    congr 1
    conv => lhs; rw [← Nat.mod_add_div r 128]
    rw [Nat.mul_add, ← Nat.mul_assoc]
  have h1 := (lane_of ⟨x, hx⟩).1
  have h2 : r % 128 < 128 := Nat.mod_lt _ (by decide)
  have hl : x / 128 + 2 * (r % 128) < 256 := by
    have h3 : x / 128 ≤ 1 := Nat.le_of_lt_succ h1
    have h4 : 2 * (r % 128) ≤ 2 * 127 := Nat.mul_le_mul_left 2 (Nat.le_of_lt_succ h2)
    exact Nat.lt_of_le_of_lt (Nat.add_le_add h3 h4) (by decide)
  rw [e, and_byte hl (by decide), Nat.and_one_is_mod, Nat.add_mul_mod_self_left, Nat.mod_eq_of_lt h1]
theorem dbl_step {x r s : Nat} (hx : x < 256) : (((x + 256 * r) ^^^ ((x / 128 + 256 * s) * 2 ^ 7)) * 2 ^ 1) ^^^ ((x / 128 + 256 * s) * 27) = xt x + 256 * (((r ^^^ (s * 2 ^ 7)) * 2 ^ 1) ^^^ (s * 27)) := by
  obtain ⟨_, h2, h3, h4, h5, h6, _⟩ := lane_of ⟨x, hx⟩
  dsimp only at h2 h3 h4 h5 h6
  have f (k : Nat) : (x / 128 + 256 * s) * k = x / 128 * k + 256 * (s * k) := by rw [Nat.add_mul, Nat.mul_assoc]
  have g (a k : Nat) (b : Nat) : (a + 256 * b) * k = a * k + 256 * (b * k) := by rw [Nat.add_mul, Nat.mul_assoc]
  rw [f, f, show x / 128 * 2 ^ 7 = x / 128 * 128 from rfl, xor_byte hx h3, h4, g, show x % 128 * 2 ^ 1 = x % 128 * 2 from rfl, xor_byte h2 h6, h5]
theorem dbl_zero : (((0 : Nat) ^^^ (0 * 2 ^ 7)) * 2 ^ 1) ^^^ (0 * 27) = 0 := by decide
theorem dblN_eq {x y z : Nat} (hx : x < 256) (hy : y < 256) (hz : z < 256) : dblN (x + 256 * (y + 256 * z)) = xt x + 256 * (xt y + 256 * xt z) := by
  have e0 : (z / 2 ^ 7 &&& 1) = z / 128 := by
    have := top_step (x := z) (r := 0) (m := 0) hz
    simpa using this
  have e : ((x + 256 * (y + 256 * z)) / 2 ^ 7) &&& 65793 = x / 128 + 256 * (y / 128 + 256 * (z / 128)) := by
    rw [show (65793 : Nat) = 1 + 256 * (1 + 256 * 1) from rfl, top_step hx, top_step hy, e0]
  have ez : (((z ^^^ (z / 128 * 2 ^ 7)) * 2 ^ 1) ^^^ (z / 128 * 27)) = xt z := by
    have := dbl_step (x := z) (r := 0) (s := 0) hz
    rw [dbl_zero] at this
    simpa using this
  unfold dblN
  rw [e, dbl_step hx, dbl_step hy, ez]
theorem split24 {a : Nat} (ha : a < 2 ^ 24) : a = a % 256 + 256 * (a / 256 % 256 + 256 * (a / 256 / 256)) ∧ a % 256 < 256 ∧ a / 256 % 256 < 256 ∧ a / 256 / 256 < 256 := by
  refine ⟨?_, Nat.mod_lt _ (by decide), Nat.mod_lt _ (by decide), ?_⟩
  · rw [Nat.mod_add_div (a / 256), Nat.mod_add_div]
  · rw [Nat.div_div_eq_div_mul]
    exact Nat.div_lt_of_lt_mul ha
theorem dblN_lt {a : Nat} (ha : a < 2 ^ 24) : dblN a < 2 ^ 24 := by
  obtain ⟨e, h1, h2, h3⟩ := split24 ha
  rw [e, dblN_eq h1 h2 h3]
  have g1 := xt_lt h1
  have g2 := xt_lt h2
  have g3 := xt_lt h3
  have k1 : xt (a / 256 % 256) + 256 * xt (a / 256 / 256) ≤ 255 + 256 * 255 := Nat.add_le_add (Nat.le_of_lt_succ g2) (Nat.mul_le_mul_left 256 (Nat.le_of_lt_succ g3))
  exact Nat.lt_of_le_of_lt (Nat.add_le_add (Nat.le_of_lt_succ g1) (Nat.mul_le_mul_left 256 k1)) (by decide)
end Mine
end

-- part JB
section
open PySem PySem.W PySem.Calls PyProof.Rows
namespace Mine
set_option maxRecDepth 100000
set_option maxHeartbeats 4000000
set_option linter.unusedVariables false

theorem fill1 (w : World) (h : Heap) : (hd.heap_39 w.params).In h → PySem.Challenge.rw_jb0038_01.row.prog = PySem.Challenge.rw_jb0038_01.row.prog := by
  k_fill
  exact fun _ => rfl

theorem lt_top (a : Nat) : ((a / 2 ^ 7) &&& 65793) < 2 ^ 60 := Nat.lt_of_le_of_lt Nat.and_le_right (by decide)
theorem lt_mid {a : Nat} (ha : a < 2 ^ 24) : a ^^^ (((a / 2 ^ 7) &&& 65793) * 2 ^ 7) < 2 ^ 24 := by
  refine Nat.xor_lt_two_pow ha ?_
  have : ((a / 2 ^ 7) &&& 65793) ≤ 65793 := Nat.and_le_right
  exact Nat.lt_of_le_of_lt (Nat.mul_le_mul_right _ this) (by decide)
theorem lt_mid60 {a : Nat} (ha : a < 2 ^ 24) : a ^^^ (((a / 2 ^ 7) &&& 65793) * 2 ^ 7) < 2 ^ 60 := Nat.lt_of_lt_of_le (lt_mid ha) (by decide)
noncomputable def timesN (a f t : Nat) : Nat := if f = 0 then t else timesN (dblN a) (f / 2) (if f % 2 = 1 then t ^^^ a else t)
termination_by f
decreasing_by exact Nat.div_lt_self (Nat.pos_of_ne_zero (by assumption)) (by decide)

section
variable {w : World} {p : Program} {loose : List Str} {mean : ExcName → Option Value} {mg mb : Str → Option Value} {dp un : Nat} {gd : Option (List Code)} {cn : Str} {cs : Scope} {a : Addr} {ccd : Value} {cl : List (Str × Addr)} {outer : List Env} {A₀ : Around} {base h₀ : Heap} {L : Addr} {m : Str → Option Value} {news : List (Addr × Obj)} {s : Shared} {Q E : Value → Shared → Prop}
theorem times_c {a0 f0 : Nat} {tn tz : Tok}
    (B : Below A₀ base outer h₀) (F : Fr h₀ L s.heap m) (X : (hd.heap_39 w.params).In h₀) (N : News h₀ L s.heap news) (T : Top p loose mean mg mb h₀) (hk : cs.kind = .function)
    (h1 : a0 < 2 ^ 24) (h2 : f0 < 256) (hd9 : dp + 2 < recursionLimit) (hu9 : un + 16 < cLine)
    (hret : ∀ (t : Tok) (h' : Heap) (tk' : Nat), Fr h₀ L h' m → News h₀ L h' news → Q (.int (timesN a0 f0 0 : Nat) t) { s with heap := h', toks := tk' }) :
    wpAny (model PySem.Challenge.rw_jb0038_01.row.prog w) (ktrTop dp un gd cn cs L a ccd cl outer) (PySem.call (.ref 189) [.int (a0 : Nat) tn, .int (f0 : Nat) tz]) Q E s := by
  refine wpAny_call ?_
  k_dflt cell_enter
  repeat' ((fail_if_success (with_reducible show wpAny _ _ (exec (Stmt.While _ _ _ _) _) _ _ _)); first | (k_unfold; (try dsimp only)) | (k_end; wrow_close) | walk1 | (dsimp only; walk1) | (leave1; walk_say "STEP leave1"; try dsimp only) | fail "no step")
  rename Fr _ _ _ _ => lF
  rename News _ _ _ _ => lN
  rename_i g9 L9 h8 FG B9 X9 T9 h9
  refine While_inv (fun n m nx => nx = news ∧ ∃ (a f t : Nat) (ta tf tt : Tok), n = f ∧ a < 2 ^ 24 ∧ f < 256 ∧ t < 2 ^ 24 ∧ timesN a f t = timesN a0 f0 0 ∧ m (Str.ofString "lanes") = some (.int (a : Nat) ta) ∧ m (Str.ofString "factor") = some (.int (f : Nat) tf) ∧ m (Str.ofString "total") = some (.int (t : Nat) tt)) (n₀ := f0) lF lN ⟨rfl, a0, f0, 0, _, _, _, rfl, h1, h2, by decide, rfl, rfl, rfl, rfl⟩ ?_
  · clear lF lN
    rintro f₁ m₁ news₁ hh₁ tk₁ F₁ N₁ ⟨rfl, a₁, _, t₁, ta, tf, tt, rfl, ha, hf, ht, hr, e1, e2, e3⟩
    refine isTrue_plain ?_
    refine nameX_L F₁ (cl := []) e2 ?_
    refine PyProof.Rows.truthy_int ?_
    by_cases g0 : f₁ = 0
    · subst g0
      rw [timesN, if_pos rfl] at hr
      rw [if_neg (by decide)]
      have em : m₁ = fun z => if z = Str.ofString "total" then some (.int (t₁ : Nat) tt) else m₁ z := by
        funext z
        split
        · subst z; exact e3
        · rfl
      rw [em] at F₁
      k_steps
      refine cb_retI hret ?_ (by assumption) (by assumption)
      rw [hr]
    · rw [timesN, if_neg g0] at hr
      rw [if_pos (by simpa using g0)]
      refine exec_cut fun Q1 hQ1 => ?_
      refine mono_fr F₁ (fun g L s' => ∃ (h' : Heap) (tk : Nat) (m' : Str → Option Value) (tt' : Tok), s' = ⟨h', s.gens, s.drawn, tk, s.os⟩ ∧ Fr g L h' m' ∧ News g L h' news₁ ∧ m' (Str.ofString "lanes") = some (.int (a₁ : Nat) ta) ∧ m' (Str.ofString "factor") = some (.int (f₁ : Nat) tf) ∧ m' (Str.ofString "total") = some (.int ((if f₁ % 2 = 1 then t₁ ^^^ a₁ else t₁ : Nat) : Int) tt')) ?_ fun s' hst => hQ1 _ ?_
      · clear hQ1
        refine wpAny_If ?_
        refine isTrue_plain ?_
        refine wpAny_BinOp ?_
        refine nameX_L F₁ (cl := []) e2 ?_
        refine wpAny_Constant_int ?_
        refine modN (k := 2) rfl (by decide) ?_
        refine PyProof.Rows.truthy_int ?_
        by_cases g1 : f₁ % 2 = 1
        · rw [if_pos (by rw [g1]; rfl)]
          refine exec_cut fun Q2 hQ2 => ?_
          refine wpAny_AugAssign_Name (wpAny_loadName_local rfl rfl F₁.ns e3 ?_)
          refine nameX_L F₁ (cl := []) e1 ?_
          refine ixorN ?_
          refine storeX_L (cl := []) F₁ N₁ fun h2 F2 N2 => hQ2 _ (wpAny_execs_nil ?_)
          rw [if_pos g1]
          exact ⟨rfl, _, _, _, _, rfl, F2, N2, (if_neg (by decide)).trans e1, (if_neg (by decide)).trans e2, if_pos rfl⟩
        · rw [if_neg (by have h01 := Nat.mod_two_eq_zero_or_one f₁; rcases h01 with h01 | h01; rw [h01]; decide; exact absurd h01 g1)]
          refine wpAny_execs_nil ?_
          rw [if_neg g1]
          exact ⟨rfl, _, _, _, _, rfl, F₁, N₁, e1, e2, e3⟩
      · have ht2 : (if f₁ % 2 = 1 then t₁ ^^^ a₁ else t₁) < 2 ^ 24 := by
          split
          · exact Nat.xor_lt_two_pow ht ha
          · exact ht
        generalize (if f₁ % 2 = 1 then t₁ ^^^ a₁ else t₁) = t2 at hr hst ht2
        clear F₁ N₁ e1 e2 e3 hQ1 ht
        obtain ⟨h2, tk2, m2, tt2, rfl, F2, N2, e1, e2, e3⟩ := hst
        refine exec_cut fun Q2 hQ2 => ?_
        refine wpAny_Assign_Name ?_
        refine wpAny_BinOp ?_
        refine wpAny_BinOp ?_
        refine nameX_L F2 (cl := []) e1 ?_
        refine wpAny_Constant_int ?_
        refine shrN (k := 7) rfl ?_
        refine Call_ ?_
        refine el_global (hd := by decide) (X9.keeps F2.keep) (T9.keeps F2.keep) rfl rfl rfl (ones_name w) ?_
        refine callWith_K0 (X9.keeps F2.keep) (ones_keep w) ?_
        refine ones_c (cl := []) B9 F2 X9 N2 T9 rfl (show dp + 1 + 1 < recursionLimit from hd9) (show un + 3 + 8 < cLine from room (c := 11) hu9 (by decide)) fun t9 h3 tk3 F3 N3 => ?_
        clear F2 N2
        refine andN (y := 65793) ?_
        refine storeX_L (cl := []) F3 N3 fun h4 F4 N4 => hQ2 _ ?_
        clear F3 N3 hQ2
        dsimp only
        obtain ⟨m3, em3, F4⟩ := fr_map F4
        have e1' : m3 (Str.ofString "lanes") = some (.int (a₁ : Nat) ta) := by rw [em3]; exact (if_neg (by decide)).trans e1
        have e2' : m3 (Str.ofString "factor") = some (.int (f₁ : Nat) tf) := by rw [em3]; exact (if_neg (by decide)).trans e2
        have e3' : m3 (Str.ofString "total") = some (.int (t2 : Nat) tt2) := by rw [em3]; exact (if_neg (by decide)).trans e3
        obtain ⟨t8, e4'⟩ : ∃ t8, m3 (Str.ofString "tops") = some (.int ((a₁ / 2 ^ 7 &&& 65793 : Nat) : Int) t8) := ⟨_, by rw [em3]; rfl⟩
        clear em3 e1 e2 e3
        refine exec_cut fun Q2 hQ2 => ?_
        refine wpAny_Assign_Name ?_
        refine wpAny_BinOp ?_
        refine wpAny_BinOp ?_
        refine wpAny_BinOp ?_
        refine nameX_L F4 (cl := []) e1' ?_
        refine wpAny_BinOp ?_
        refine nameX_L F4 (cl := []) e4' ?_
        refine wpAny_Constant_int ?_
        refine shlN (k := 7) rfl (by decide) (lt_top _) ?_
        refine xorN ?_
        refine wpAny_Constant_int ?_
        refine shlN (k := 1) rfl (by decide) (lt_mid60 ha) ?_
        refine wpAny_BinOp ?_
        refine nameX_L F4 (cl := []) e4' ?_
        refine wpAny_Constant_int ?_
        refine mulN (k := 27) rfl (by decide) ?_
        refine xorN ?_
        refine storeX_L (cl := []) F4 N4 fun h5 F5 N5 => hQ2 _ ?_
        clear F4 N4 hQ2
        dsimp only
        obtain ⟨m4, em4, F5⟩ := fr_map F5
        have e2 : m4 (Str.ofString "factor") = some (.int (f₁ : Nat) tf) := by rw [em4]; exact (if_neg (by decide)).trans e2'
        have e3 : m4 (Str.ofString "total") = some (.int (t2 : Nat) tt2) := by rw [em4]; exact (if_neg (by decide)).trans e3'
        obtain ⟨t7, e1⟩ : ∃ t7, m4 (Str.ofString "lanes") = some (.int ((dblN a₁ : Nat) : Int) t7) := ⟨_, by rw [em4]; rfl⟩
        clear em4 e1' e2' e3' e4'
        refine exec_cut fun Q2 hQ2 => ?_
        refine wpAny_AugAssign_Name (wpAny_loadName_local rfl rfl F5.ns e2 ?_)
        refine wpAny_Constant_int ?_
        refine fdivN (k := 2) rfl (by decide) (by decide) ?_
        refine storeX_L (cl := []) F5 N5 fun h6 F6 N6 => hQ2 _ ?_
        refine wpAny_execs_nil ?_
        exact WhileStep.intro (n' := f₁ / 2) F6 N6 (Nat.div_lt_self (Nat.pos_of_ne_zero g0) (by decide)) ⟨rfl, _, _, _, _, _, _, rfl, dblN_lt ha, Nat.lt_of_le_of_lt (Nat.div_le_self _ _) hf, ht2, hr, (if_neg (by decide)).trans e1, if_pos rfl, (if_neg (by decide)).trans e3⟩
end
end Mine
end

-- part JFor
section
open PySem PySem.W PySem.Calls PyProof.Rows
namespace Mine
set_option maxRecDepth 100000
set_option maxHeartbeats 1000000
set_option linter.unusedVariables false

noncomputable def ForPost (h₀ : Heap) (L : Addr) (J : Nat → (Str → Option Value) → List (Addr × Obj) → Array GenState → Drawn → Prop) (I : Addr) (oI : Obj) (i : Nat) (os : OsState) (Q : Flow → Shared → Prop) (f : Flow) (s₃ : Shared) : Prop :=
  match f with
  | .ret v => Q (.ret v) s₃
  | .brk => Q .next s₃
  | _ => s₃.os = os ∧ ∃ m₂ nx₂, Fr h₀ L s₃.heap m₂ ∧ News h₀ L s₃.heap ((I, oI) :: nx₂) ∧ J (i + 1) m₂ nx₂ s₃.gens s₃.drawn

theorem ForPost.next {h₀ : Heap} {L : Addr} {J : Nat → (Str → Option Value) → List (Addr × Obj) → Array GenState → Drawn → Prop} {I : Addr} {oI : Obj} {i : Nat} {os : OsState} {Q : Flow → Shared → Prop} {s₃ : Shared} {m₂ : Str → Option Value} {nx₂ : List (Addr × Obj)}
    (ho : s₃.os = os) (F : Fr h₀ L s₃.heap m₂) (N : News h₀ L s₃.heap ((I, oI) :: nx₂)) (hj : J (i + 1) m₂ nx₂ s₃.gens s₃.drawn) : ForPost h₀ L J I oI i os Q .next s₃ := ⟨ho, m₂, nx₂, F, N, hj⟩

structure LoopInv (n : Nat) (os : OsState) (J : Nat → (Str → Option Value) → List (Addr × Obj) → Array GenState → Drawn → Prop) (h₀ : Heap) (L I l : Addr) (i : Nat) (m : Str → Option Value) (nx : List (Addr × Obj)) (t : Shared) : Prop where
  hi : i ≤ n
  os : t.os = os
  F : Fr h₀ L t.heap m
  N : News h₀ L t.heap nx
  it : t.heap.IsListIter I l i
  J : J i m nx t.gens t.drawn
section
variable {prog : Program} {w : World} {A : Around} {env : Env} {E : Value → Shared → Prop} {Q : Flow → Shared → Prop} {s : Shared} {h₀ : Heap}

/-- a for over a list that the iterable's evaluation makes -/
theorem forE {x : Str} {px pos : Pos} {iter : Expr} {body : List Stmt} (hh : A.handled = none)
    (hiter : wpAny (model prog w) A (eval iter env) (fun xv s₁ => ∃ (l : Addr) (vs : List Value) (adr : List Addr) (J : Nat → (Str → Option Value) → List (Addr × Obj) → Array GenState → Drawn → Prop), xv = .ref l ∧ s₁.os = s.os ∧
      (∀ i m nx g d, J i m nx g d → nx.map (·.1) = adr ∧ ∀ h, Fr h₀ env.locals h m → News h₀ env.locals h nx → h.IsList l vs.toArray) ∧
      (∃ m nx, Fr h₀ env.locals s₁.heap m ∧ News h₀ env.locals s₁.heap nx ∧ J 0 m nx s₁.gens s₁.drawn) ∧
      (∀ i v m₁ nx I oI s₁, vs[i]? = some v → J i m₁ nx s₁.gens s₁.drawn → s₁.os = s.os → (∀ p ∈ nx, p.1 ≠ I) → Fr h₀ env.locals s₁.heap m₁ → News h₀ env.locals s₁.heap ((I, oI) :: nx) →
        wpAny (model prog w) A (storeName env x v) (fun _ s₂ => wpAny (model prog w) A (execs body env) (ForPost h₀ env.locals J I oI i s.os Q) E s₂) E s₁) ∧
      (∀ m nx s₁, J vs.length m nx s₁.gens s₁.drawn → s₁.os = s.os → Fr h₀ env.locals s₁.heap m → News h₀ env.locals s₁.heap nx → Q .next s₁)) E s)
    (hs : ∀ x, foldedSetIterable iter env x = pure x)
    (hE : PassesOwn (model prog w) A env E) :
    wpAny (model prog w) A (exec (.For (.Name x px) iter body [] pos) env) Q E s := by
  refine wpAny_For (wpAny_mono hiter (fun xv s₁ h₁ => ?_) fun _ _ e => e) hs
  obtain ⟨l, vs, adr, J, rfl, hos, hl, ⟨m, nx, F, N, hj⟩, turn, done⟩ := h₁
  obtain ⟨hadr, hL⟩ := hl 0 m nx s₁.gens s₁.drawn hj
  have hlist := hL _ F N
  refine wpAny_pyIter_list hlist ?_
  have Ia : s₁.heap.objs.size ∉ adr := by
    rw [← hadr]
    intro hm
    obtain ⟨p, hp, e⟩ := List.mem_map.mp hm
    exact absurd (Heap.lt_size (N p hp).1) (by rw [e]; exact Nat.lt_irrefl _)
  have Lt : env.locals < s₁.heap.objs.size := F.ns.lt
  have I0 : h₀.get? s₁.heap.objs.size = none := by
    cases hq : h₀.get? s₁.heap.objs.size with
    | none => rfl
    | some o => exact absurd (Heap.lt_size (F.keep _ _ hq)) (Nat.lt_irrefl _)
  refine codeAny_forLoop (fun k s' => ∃ i m nx, k = vs.length + 1 - i ∧ LoopInv vs.length s.os J h₀ env.locals s₁.heap.objs.size l i m nx s') ?_ (vs.length + 1)
    ⟨0, m, nx, rfl, Nat.zero_le _, hos, F.push _, (fun p hp => ⟨Heap.get?_push_of_some _ (N p hp).1, (N p hp).2⟩), ⟨_, Heap.get?_push_size _ rfl, rfl, rfl⟩, hj⟩
  generalize s₁.heap.objs.size = I at *
  clear hlist hL hadr hj F N hos
  rintro k s' ⟨i, m, nx, rfl, V⟩
  obtain ⟨hi, hos, F, N, hI, hj⟩ := V
  obtain ⟨hadr, hL⟩ := hl i m nx s'.gens s'.drawn hj
  have hlist := hL _ F N
  have hne : ∀ p ∈ nx, p.1 ≠ I := by
    intro p hp e
    exact Ia (by rw [← hadr, ← e]; exact List.mem_map_of_mem hp)
  have step : ∀ h' : Heap, (∀ b o, b ≠ I → s'.heap.get? b = some o → h'.get? b = some o) → Fr h₀ env.locals h' m ∧ News h₀ env.locals h' nx := by
    intro h' hk
    refine ⟨⟨F.ns.at' fun o e => hk _ o (Nat.ne_of_lt Lt) e, fun b o e => hk b o (fun q => ?_) (F.keep b o e), F.above⟩, fun p hp => ⟨hk _ _ (hne p hp) (N p hp).1, (N p hp).2⟩⟩
    rw [q, I0] at e; cases e
  by_cases hlt : i < vs.length
  · refine wpAny_pyNext_list_item hI hlist (x := vs[i]) (by simp [hlt]) fun h' hit' hs' => ?_
    obtain ⟨F', N'⟩ := step h' fun b o hb e => (hs'.2 b hb).trans e
    obtain ⟨oI, ho', hc', hd'⟩ := hit'
    have NI : News h₀ env.locals h' ((I, oI) :: nx) := by
      intro p hp
      rcases List.mem_cons.mp hp with rfl | hp
      · exact ⟨ho', Nat.ne_of_gt Lt, I0⟩
      · exact N' p hp
    have tr := turn i vs[i] m nx I oI { s' with heap := h' } (by simp [hlt]) hj hos hne F' NI
    refine wpAny_passesOwn hE (wpAny_assign_Name (wpAny_mono tr (fun _ s₂ h₂ => wpAny_passesOwn hE (wpAny_mono h₂ (fun f s₃ h₃ => ?_) fun _ _ e => e)) fun _ _ e => e))
    have fin : s₃.os = s.os ∧ (∃ m₂ nx₂, Fr h₀ env.locals s₃.heap m₂ ∧ News h₀ env.locals s₃.heap ((I, oI) :: nx₂) ∧ J (i + 1) m₂ nx₂ s₃.gens s₃.drawn) → ∃ m_1, m_1 < vs.length + 1 - i ∧ ∃ i m nx, m_1 = vs.length + 1 - i ∧ LoopInv vs.length s.os J h₀ env.locals I l i m nx s₃ := by
      rintro ⟨ho, m₂, nx₂, F₂, N₂, hj₂⟩
      exact ⟨vs.length + 1 - (i + 1), Nat.sub_lt_sub_left (Nat.lt_succ_of_lt hlt) (Nat.lt_succ_self i), i + 1, m₂, nx₂, rfl, hlt, ho, F₂, fun p hp => N₂ p (.tail _ hp), ⟨oI, (N₂ _ (.head _)).1, hc', hd'⟩, hj₂⟩
    cases f with
    | next => exact fin h₃
    | cont => exact fin h₃
    | brk => exact h₃
    | ret v => exact h₃
  · have : i = vs.length := Nat.le_antisymm (by assumption) (Nat.not_lt.mp hlt)
    subst this
    refine wpAny_passesOwn hE (wpAny_pyNext_list_end hh hI hlist (by simp) fun h' he' => ?_)
    obtain ⟨F', N'⟩ := step h' fun b o hb e => he' b o hb e
    exact wpAny_passesOwn hE (wpAny_execs_nil (done m nx _ hj hos F' N'))

theorem forN {x : Str} {px pos : Pos} {iter : Expr} {body : List Stmt} {l : Addr} {vs : List Value} {adr : List Addr} (J : Nat → (Str → Option Value) → List (Addr × Obj) → Array GenState → Drawn → Prop)
    {m₀ : Str → Option Value} (_F : Fr h₀ env.locals s.heap m₀) (hh : A.handled = none)
    (hl : ∀ i m nx g d, J i m nx g d → nx.map (·.1) = adr ∧ ∀ h, Fr h₀ env.locals h m → News h₀ env.locals h nx → h.IsList l vs.toArray)
    (hiter : wpAny (model prog w) A (eval iter env) (fun xv s₁ => xv = .ref l ∧ s₁.os = s.os ∧ ∃ m nx, Fr h₀ env.locals s₁.heap m ∧ News h₀ env.locals s₁.heap nx ∧ J 0 m nx s₁.gens s₁.drawn) E s)
    (turn : ∀ i v m₁ nx I oI s₁, vs[i]? = some v → J i m₁ nx s₁.gens s₁.drawn → s₁.os = s.os → (∀ p ∈ nx, p.1 ≠ I) → Fr h₀ env.locals s₁.heap m₁ → News h₀ env.locals s₁.heap ((I, oI) :: nx) →
      wpAny (model prog w) A (storeName env x v) (fun _ s₂ => wpAny (model prog w) A (execs body env) (ForPost h₀ env.locals J I oI i s.os Q) E s₂) E s₁)
    (done : ∀ m nx s₁, J vs.length m nx s₁.gens s₁.drawn → s₁.os = s.os → Fr h₀ env.locals s₁.heap m → News h₀ env.locals s₁.heap nx → Q .next s₁)
    (hs : ∀ x, foldedSetIterable iter env x = pure x)
    (hE : PassesOwn (model prog w) A env E) :
    wpAny (model prog w) A (exec (.For (.Name x px) iter body [] pos) env) Q E s :=
  forE hh (wpAny_mono hiter (fun xv s₁ h₁ => ⟨l, vs, adr, J, h₁.1, h₁.2.1, hl, h₁.2.2, turn, done⟩) fun _ _ e => e) hs hE
end
end Mine
end

-- part JC
section
open PySem PySem.W PySem.Calls PyProof.Rows
namespace Mine
set_option maxRecDepth 100000
set_option maxHeartbeats 4000000
set_option linter.unusedVariables false

theorem fill2 (w : World) (h : Heap) : (hd.heap_39 w.params).In h → PySem.Challenge.rw_jb0038_01.row.prog = PySem.Challenge.rw_jb0038_01.row.prog := by
  k_fill
  exact fun _ => rfl

noncomputable def IsListObj (o : Obj) (vs : List Value) : Prop := o.cls = .type "list" ∧ ∃ n, o.data = .seq vs.toArray n
theorem IsListObj.at {o : Obj} {vs : List Value} (h : IsListObj o vs) {H : Heap} {c : Addr} (e : H.get? c = some o) : H.IsList c vs.toArray := by
  obtain ⟨h1, n, h2⟩ := h
  exact ⟨o, e, h1, n, h2⟩

noncomputable def valueN (cs : List Nat) (x : Nat) : Nat := cs.foldl (fun t l => timesN t x 0 ^^^ l) 0

theorem dbl_times_lt : ∀ (f a t : Nat), a < 2 ^ 24 → t < 2 ^ 24 → timesN a f t < 2 ^ 24 := by
  intro f
  induction f using Nat.strongRecOn with
  | ind f ih =>
    intro a t ha ht
    rw [timesN]
    by_cases h : f = 0
    · rw [if_pos h]; exact ht
    · rw [if_neg h]
      refine ih (f / 2) (Nat.div_lt_self (Nat.pos_of_ne_zero h) (by decide)) _ _ (dblN_lt ha) ?_
      split
      · exact Nat.xor_lt_two_pow ht ha
      · exact ht

section
variable {w : World} {p : Program} {loose : List Str} {mean : ExcName → Option Value} {mg mb : Str → Option Value} {dp un : Nat} {gd : Option (List Code)} {cn : Str} {cs : Scope} {a : Addr} {ccd : Value} {cl : List (Str × Addr)} {outer : List Env} {A₀ : Around} {base h₀ : Heap} {L : Addr} {m : Str → Option Value} {news : List (Addr × Obj)} {s : Shared} {Q E : Value → Shared → Prop}
theorem value_c {c : Addr} {oc : Obj} {vs : List Value} {ks : List Nat} {x0 : Nat} {tx : Tok}
    (B : Below A₀ base outer h₀) (F : Fr h₀ L s.heap m) (X : (hd.heap_39 w.params).In h₀) (N : News h₀ L s.heap news) (T : Top p loose mean mg mb h₀) (hk : cs.kind = .function)
    (hc : (c, oc) ∈ news) (hoc : IsListObj oc vs) (hi : IntsAre vs (ks.map fun k : Nat => (k : Int))) (hlt : ∀ k ∈ ks, k < 2 ^ 24) (hx : x0 < 256) (hd9 : dp + 3 < recursionLimit) (hu9 : un + 24 < cLine)
    (hret : ∀ (t : Tok) (h' : Heap) (tk' : Nat), Fr h₀ L h' m → News h₀ L h' news → Q (.int (valueN ks x0 : Nat) t) { s with heap := h', toks := tk' }) :
    wpAny (model PySem.Challenge.rw_jb0038_01.row.prog w) (ktrTop dp un gd cn cs L a ccd cl outer) (PySem.call (.ref 196) [.ref c, .int (x0 : Nat) tx]) Q E s := by
  refine wpAny_call ?_
  k_dflt cell_enter
  repeat' ((fail_if_success (with_reducible show wpAny _ _ (exec (Stmt.For _ _ _ _ _) _) _ _ _)); first | (k_unfold; (try dsimp only)) | (k_end; wrow_close) | walk1 | (dsimp only; walk1) | (leave1; walk_say "STEP leave1"; try dsimp only) | fail "no step")
  rename Fr _ _ _ _ => lF
  rename News _ _ _ _ => lN
  rename_i g9 L9 h8 FG B9 X9 T9 h9
  refine forN (hs := by intro _; rfl) (hE := by passes_own) (l := c) (vs := vs) (adr := news.map (·.1)) (fun i m nx g d => nx = news ∧ g = s.gens ∧ d = s.drawn ∧ ∃ (t : Nat) (tt : Tok), t < 2 ^ 24 ∧ t = valueN (ks.take i) x0 ∧ m (Str.ofString "total") = some (.int (t : Nat) tt) ∧ m (Str.ofString "x") = some (.int (x0 : Nat) tx)) lF rfl ?_ ?_ ?_ ?_
  · rintro i m nx g d ⟨rfl, _⟩
    exact ⟨rfl, fun h _ N => hoc.at (N _ hc).1⟩
  · refine nameX_L lF (cl := []) (v := .ref c) rfl ⟨rfl, rfl, _, _, lF, lN, rfl, rfl, rfl, 0, _, by decide, rfl, rfl, rfl⟩
  · clear lF lN
    rintro i v m₁ nx I oI s₁ hv ⟨rfl, hg, hdr, t, tt, ht, rfl, e1, e2⟩ hos hne F₁ N₁
    have hiv := List.getElem?_eq_some_iff.mp hv
    have hlen : vs.length = ks.length := by rw [hi.length, List.length_map]
    have hik : i < ks.length := by rw [← hlen]; exact hiv.1
    obtain ⟨tl, hx2⟩ := hi.get i (ks[i] : Nat) (by simp [hik])
    rw [hv] at hx2
    obtain rfl := Option.some.inj hx2
    have hk24 : ks[i] < 2 ^ 24 := hlt _ (List.getElem_mem hik)
    obtain ⟨hp₁, gs₁, dr₁, tk₁, os₁⟩ := s₁
    dsimp only at F₁ N₁ hg hdr hos ⊢
    refine storeX_L (cl := []) F₁ N₁ fun h2 F2 N2 => ?_
    clear F₁ N₁
    dsimp only
    obtain ⟨m2, em2, F2⟩ := fr_map F2
    have e1' : m2 (Str.ofString "total") = some (.int (valueN (ks.take i) x0 : Nat) tt) := by rw [em2]; exact (if_neg (by decide)).trans e1
    have e2' : m2 (Str.ofString "x") = some (.int (x0 : Nat) tx) := by rw [em2]; exact (if_neg (by decide)).trans e2
    have e3' : m2 (Str.ofString "lanes") = some (.int (ks[i] : Nat) tl) := by rw [em2]; exact if_pos rfl
    clear em2 e1 e2
    refine exec_cut fun Q1 hQ1 => ?_
    refine wpAny_Assign_Name ?_
    refine wpAny_BinOp ?_
    refine Call_ ?_
    refine el_global (hd := by decide) (X9.keeps F2.keep) (T9.keeps F2.keep) rfl rfl rfl (times_name w) ?_
    refine callWith_K X9 (times_keep w) ?_
    refine args_cons ?_
    refine nameX_L F2 (cl := []) e1' ?_
    refine args_cons ?_
    refine nameX_L F2 (cl := []) e2' ?_
    refine args_nil ⟨X9.keeps F2.keep, ?_⟩
    refine times_c (cl := []) B9 F2 X9 N2 T9 rfl ht hx (show dp + 1 + 2 < recursionLimit from hd9) (show un + 3 + 16 < cLine from room (c := 19) hu9 (by decide)) fun t9 h3 tk3 F3 N3 => ?_
    clear F2 N2
    refine nameX_L F3 (cl := []) e3' ?_
    refine xorN ?_
    refine storeX_L (cl := []) F3 N3 fun h4 F4 N4 => hQ1 _ (wpAny_execs_nil ?_)
    have ev : valueN (ks.take (i + 1)) x0 = timesN (valueN (ks.take i) x0) x0 0 ^^^ ks[i] := by
      unfold valueN
      rw [List.take_add_one, List.getElem?_eq_getElem hik, Option.toList_some, List.foldl_append]; rfl
    exact ForPost.next hos F4 N4 ⟨rfl, hg, hdr, _, _, Nat.xor_lt_two_pow (dbl_times_lt _ _ _ ht (by decide)) hk24, ev.symm, if_pos rfl, (if_neg (by decide)).trans e2'⟩
  · clear lF lN
    rintro m₁ nx s₁ ⟨rfl, hg, hdr, t, tt, ht, rfl, e1, e2⟩ hos F₁ N₁
    have em : m₁ = fun z => if z = Str.ofString "total" then some (.int (valueN ks x0 : Nat) tt) else m₁ z := by
      funext z
      split
      · subst z; rw [e1, show ks.take vs.length = ks from by rw [hi.length, List.length_map, List.take_length]]
      · rfl
    rw [em] at F₁
    obtain ⟨hp₁, gs₁, dr₁, tk₁, os₁⟩ := s₁
    dsimp only at F₁ N₁ hg hdr hos ⊢
    subst hg hdr hos
    k_steps
    exact hret _ _ _ (by assumption) (by assumption)
end
end Mine
end

-- part JE
section
open PySem PySem.W PySem.Calls PyProof.Rows
namespace Mine
set_option maxRecDepth 100000
set_option maxHeartbeats 1000000
set_option linter.unusedVariables false
abbrev shareObj (dd : Option Addr) (v0 v1 : Value) (n : Nat) : Obj := { cls := .ref 145, dict := dd, data := .seq #[v0, v1] n, slots := #[] }

theorem check_sub {M : Model} {A : Around} {E : Value → Shared → Prop} {s : Shared} {self : Value} {rest : List Value} {Q : Unit → Shared → Prop} {id owner n : String}
    (hsplit : splitId id = some (owner, n))
    (hkind : (Manifest.find? owner).bind (·.attrs.lookup n) = some .slot ∨ (Manifest.find? owner).bind (·.attrs.lookup n) = some .method)
    (hI : ∀ (Q : Bool → Shared → Prop) (E : Value → Shared → Prop), Q true s → wpAny M A (isInstance self (.type owner)) Q E s) (ha : argsOk id ⟨self :: rest, []⟩) (hQ : Q () s) :
    wpAny M A (checkBuiltinCall id ⟨self :: rest, []⟩) Q E s := by
  have hk : builtinKind id = (Manifest.find? owner).bind (·.attrs.lookup n) := by simp only [builtinKind, hsplit]
  rcases hkind with h | h <;>
    · simp only [checkBuiltinCall, hk, h, hsplit]
      refine wpAny_bind (hI _ _ ?_)
      simp only [Bool.not_true, Bool.false_eq_true, if_false]
      cases hsig : Manifest.signature? id with
      | none => exact wpAny_pure hQ
      | some sig =>
        simp only [argsOk, hsig] at ha
        have h2 : Bind.checkArgs id sig ⟨self :: rest, []⟩ = pure () := ha
        show wpAny M A (Bind.checkArgs id sig ⟨self :: rest, []⟩) Q E s
        rw [h2]; exact wpAny_pure hQ

theorem share_getitem_at (l : Addr) (dd : Option Addr) (v0 v1 : Value) (n : Nat) (i : Int) (u : Tok) (k : Nat) (y : Value) (hlo : -2 ^ 63 ≤ i) (hhi : i < 2 ^ 63) (hk : seqIndex? i 2 = some k) (hy : #[v0, v1][k]? = some y) :
    Meets (Builtin.«tuple.__getitem__» ⟨[.ref l, .int i u], []⟩)
      (fun _ R s => s.heap.get? l = some (shareObj dd v0 v1 n) ∧ R (.ok (.ret y)) s) :=
  .of_wp fun prog w A R s h => by
    obtain ⟨hp, g, d, tk, os⟩ := s; obtain ⟨hl, h⟩ := h
    have f1 := AutoSeq1.idx_int
    have hf : ¬ (decide (i < -2 ^ 63) || decide (i ≥ 2 ^ 63)) = true := by simp; omega
    wp_walk using wpAny_loadPart' hl
    simp only [show (#[v0, v1] : Array Value).size = 2 from rfl, hk, hy, Option.bind_some]
    refine wpAny_ite_false (by simp; omega) ?_
    wp_walk
    exact ⟨_, rfl, h⟩
theorem share_isTuple {M : Model} {A : Around} {w : World} {s : Shared} {l : Addr} {dd : Option Addr} {v0 v1 : Value} {n : Nat} (X : (hd.heap_39 w.params).In s.heap) (hl : s.heap.get? l = some (shareObj dd v0 v1 n)) (hm : mroIn (hd.heap_39 w.params) 145 (.type "tuple") = some true) (Q : Bool → Shared → Prop) (E : Value → Shared → Prop) (h : Q true s) :
    wpAny M A (isInstance (.ref l) (.type "tuple")) Q E s := by
  have L0 : Looks M s.heap (typeOf (.ref l)) (.ref 145) := (Looks.ld (part := none) hl).andThen .now
  exact wpAny_bind (L0.here ((looks_mroIn X hm).here h))

theorem share_getitem {prog : Program} {A : Around} {w : World} {s : Shared} {l : Addr} {dd : Option Addr} {v0 v1 : Value} {n : Nat} {i : Int} {u : Tok} {k : Nat} {y : Value} {Q E : Value → Shared → Prop} (X : (hd.heap_39 w.params).In s.heap) (hl : s.heap.get? l = some (shareObj dd v0 v1 n)) (hm : mroIn (hd.heap_39 w.params) 145 (.type "tuple") = some true)
    (hlo : -2 ^ 63 ≤ i) (hhi : i < 2 ^ 63) (hk : seqIndex? i 2 = some k) (hy : #[v0, v1][k]? = some y) (h : Q y s) : wpAny (model prog w) A (PySem.call (.builtin "tuple.__getitem__") [.ref l, .int i u]) Q E s := by
  have hs : splitId "tuple.__getitem__" = some ("tuple", "__getitem__") := by decide +kernel
  have hk2 : (Manifest.find? "tuple").bind (·.attrs.lookup "__getitem__") = some .slot ∨ (Manifest.find? "tuple").bind (·.attrs.lookup "__getitem__") = some .method := by first | exact .inl (by decide +kernel) | exact .inr (by decide +kernel)
  have g := share_getitem_at l dd v0 v1 n i u k y hlo hhi hk hy prog w A (fun r s' => match r with | .ok (.ret v) => Q v s' | .ok _ => False | .error e => E e s') s ⟨hl, h⟩
  refine wpAny_call ?_
  refine codeAny_call_builtin F.slot_tuple_getitem.plain entry_tuple_getitem ?_
  refine check_sub (self := .ref l) (rest := [.int i u]) (id := "tuple.__getitem__") hs hk2 (fun Q E => share_isTuple X hl hm Q E) (args_tuple_getitem _ _) ?_
  exact g
end Mine
end

-- part JD
section
open PySem PySem.W PySem.Calls PyProof.Rows
namespace Mine
set_option maxRecDepth 100000
set_option maxHeartbeats 4000000
set_option linter.unusedVariables false

theorem fill3 (w : World) (h : Heap) : (hd.heap_39 w.params).In h → PySem.Challenge.rw_jb0038_01.row.prog = PySem.Challenge.rw_jb0038_01.row.prog := by
  k_fill
  exact fun _ => rfl

theorem code_free {K : Frag} {w : World} {p : Program} {prog : Program} {loose : List Str} {mean : ExcName → Option Value} {mg mb : Str → Option Value} {A : Around} {s : Shared} {R : Result → Shared → Prop} {name qual : Str} {params : Arguments} {body : List Stmt} {scope : Scope} {dV kV doc pm cdv ct oc : Value} {an od : Option Addr} {osl : Array (Option Value)} {f : Addr} {args : Args} {binds : List (Str × Value)}
    (X : K.In s.heap) (T : Top p loose mean mg mb s.heap)
    (ho : K.lookup f = some ⟨oc, od, .func (fnOf name qual params body scope dV kV doc pm an cdv ct), osl⟩) (hcd : codeIn K cdv qual = true) (hroom : A.depth < recursionLimit)
    (hbind : BindsTo s (fnOf name qual params body scope dV kV doc pm an cdv ct) args binds) (hloc : ∀ y ∈ binds, scope.names.lookup y.1 = some .local)
    (h : ∀ L' h₁, Fr s.heap L' h₁ (fun y => binds.reverse.lookup y) → News s.heap L' h₁ [] →
      wpAny (model prog w) (A.deeper (envOf qual scope L' f cdv)) (execs body (envOf qual scope L' f cdv))
        (fun fl s' => R (.ok (.ret (match fl with | .ret v => v | _ => .none))) s')
        (fun e s' => wpAny (model prog w) (A.deeper (envOf qual scope L' f cdv)) (leaving (envOf qual scope L' f cdv) e) (fun _ s'' => R (.error e) s'') (fun e' s'' => R (.error e') s'') s')
        { s with heap := h₁, toks := s.toks + binds.length })
    (hco : scope.isCoroutine = false) (hgen : scope.isGenerator = false) (hk : scope.kind = .function)
    (hcell : ∀ x ∈ scope.names, x.2 ≠ .cell) : codeAny (model prog w) A (.call (.ref f) args) R s :=
  codeAny_call_def (fd := fnOf name qual params body scope dV kV doc pm an cdv ct) (body := body) (binds := binds) hroom (X _ _ ho) rfl T.nolimit (codeRec_of X hcd) rfl hbind hcell hloc
    (fun h₁ hns hk₁ => h s.heap.objs.size h₁ ⟨hns, fun b o e => hk₁ b o e, Nat.le_refl _⟩ News.nil) hco hgen hk



theorem sub_tuple {M : Model} {w : World} {h : Heap} (X : (hd.heap_39 w.params).In h) : Looks M h (Builtin.«issubclass.nested» ⟨[.ref 145, .type "tuple", rawInt 0], []⟩) (.done (.ret (.bool true))) := by
  refine Looks.of_peek X ?_
  kernel_rfl
theorem ty_tuple : typeOf (.type "tuple") = pure (.type "type") := by kernel_rfl
theorem stub_tuple : Manifest.isStub "tuple" = false := by decide +kernel
theorem fc_tuple (w : World) : findCls (hd.heap_39 w.params) (.type "tuple") (.type "type") (Str.ofString "__getitem__") = some (.val (.builtin "tuple.__getitem__")) := by k_is
theorem mt_tuple {w : World} {prog : Program} {A : Around} {E : Value → Shared → Prop} {s : Shared} {h₀ : Heap} {L : Addr} {m : Str → Option Value} {pl : Sem Bool} {Q : Value × List Value → Shared → Prop} (F : Fr h₀ L s.heap m) (X₀ : (hd.heap_39 w.params).In h₀) (h : Q (.builtin "tuple.__getitem__", []) { s with toks := s.toks + 1 }) : wpAny (model prog w) A (getMethod (.type "tuple") (Str.ofString "__getitem__") pl) Q E s :=
  method_type (T := "tuple") (name := Str.ofString "__getitem__") (v := .builtin "tuple.__getitem__") F X₀ ty_tuple stub_tuple (fc_tuple w) (by decide +kernel) h
theorem mro_share (w : World) : mroIn (hd.heap_39 w.params) 145 (.type "tuple") = some true := by k_is

section
variable {w : World} {p : Program} {loose : List Str} {mean : ExcName → Option Value} {mg mb : Str → Option Value} {A : Around} {s : Shared} {Q E : Value → Shared → Prop}
theorem get_free {x : Addr} {dd : Option Addr} {v0 v1 : Value} {n : Nat} {g : Addr} {i : Int} (hg : g = 137 ∧ i = 0 ∨ g = 140 ∧ i = 1) (hh : A.handled = none) (hdp : A.depth + 2 < recursionLimit) (hu : A.units + 16 < cLine)
    (X : (hd.heap_39 w.params).In s.heap) (T : Top p loose mean mg mb s.heap) (hx : s.heap.get? x = some (shareObj dd v0 v1 n))
    (hret : ∀ s', Keeps s s' → Q (if i = 0 then v0 else v1) s') :
    wpAny (model PySem.Challenge.rw_jb0038_01.row.prog w) A (PySem.call (.ref 56) [.ref g, .ref x, .ref 145]) Q E s := by
  refine wpAny_call ?_
  rcases hg with ⟨rfl, rfl⟩ | ⟨rfl, rfl⟩
  all_goals (
    k_dflt (refine' code_free ?k1 ?k2 ?k6 ?k7 ?k8 ?k9 ?kB ?_ ?c2 ?c3 ?c4 ?c5; (case k1 => k_asm); (case k2 => k_asm); (case k6 => k_is); (case k7 => k_is); (case k8 => omega); (case k9 => exact BindsTo.of_defaults rfl (X 49 _ (by k_is)) rfl rfl rfl); (case c5 => decide); (case kB => exact locs rfl); (case c2 => exact rfl); (case c3 => exact rfl); (case c4 => exact rfl); k_whole)
    intro L1 h1 F1 N1
    have X1 := X.keeps F1.keep
    have hx1 := F1.keep _ _ hx
    k_steps
    refine call_type_obj hx1 rfl ?_
    k_steps
    refine call_issubclass (S := fun _ R s => (hd.heap_39 w.params).In s.heap ∧ R (.ok (.ret (.bool true))) s) (fun _ _ _ _ _ hs => issubclass_outer ((sub_tuple (w := w) hs.1).here hs.2)) ⟨X1, ?_⟩
    k_steps
    rename Fr _ _ _ _ => F2
    refine mt_tuple F2 X ?_
    k_steps
    rename Fr _ _ _ _ => F3
    first
      | refine share_getitem (w := w) (n := n) (k := 0) (y := v0) (X.keeps F3.keep) (F3.keep _ _ hx) (mro_share w) (by decide) (by decide) (by decide) rfl ?_
      | refine share_getitem (w := w) (n := n) (k := 1) (y := v1) (X.keeps F3.keep) (F3.keep _ _ hx) (mro_share w) (by decide) (by decide) (by decide) rfl ?_
    exact hret _ ⟨_, _, rfl, F3.keep⟩)
end
end Mine
end

-- part JG
section
open PySem PySem.W PySem.Calls PyProof.Rows
namespace Mine
set_option maxRecDepth 100000
set_option maxHeartbeats 1000000
set_option linter.unusedVariables false
theorem fill5 (w : World) (h : Heap) : (hd.heap_39 w.params).In h → PySem.Challenge.rw_jb0038_01.row.prog = PySem.Challenge.rw_jb0038_01.row.prog := by
  k_fill
  exact fun _ => rfl
theorem fi_ga (w : World) : findIn (hd.heap_39 w.params) (.ref 145) (Str.ofString "__getattribute__") = some (some (.builtin "tuple.__getattribute__")) := by k_is
theorem fi_gattr (w : World) : findIn (hd.heap_39 w.params) (.ref 145) (Str.ofString "__getattr__") = some none := by k_is
theorem cls_share (w : World) : isClsIn (hd.heap_39 w.params) 145 = true := by k_is
theorem fi_x (w : World) : findIn (hd.heap_39 w.params) (.ref 145) (Str.ofString "x") = some (some (.ref 137)) := by k_is
theorem fi_d (w : World) : findIn (hd.heap_39 w.params) (.ref 145) (Str.ofString "data") = some (some (.ref 140)) := by k_is
theorem sp_x (w : World) : specialIn (hd.heap_39 w.params) (.ref 137) (Str.ofString "__get__") = some (some (.ref 56)) := by k_is
theorem sp_d (w : World) : specialIn (hd.heap_39 w.params) (.ref 140) (Str.ofString "__get__") = some (some (.ref 56)) := by k_is
theorem tk_x (w : World) : takesIn (hd.heap_39 w.params) (.ref 137) = some true := by k_is
theorem tk_d (w : World) : takesIn (hd.heap_39 w.params) (.ref 140) = some true := by k_is
open Builtin Builtin.ObjectAttr in
theorem looks_data {K : Frag} {M : Model} {h : Heap} (X : K.In h) {C : Addr} {name : Str} {a g : Value} (ha : findIn K (.ref C) name = some (some a)) (hg : specialIn K a "__get__" = some (some g)) (ht : takesIn K a = some true) (self : Value) :
    Looks M h (find self (.ref C) name) (.bind g a) := by
  have L1 := looks_findIn (M := M) X ha
  have L2 : Looks M h (getOf (some a)) (some g) := looks_specialIn X hg
  have L3 := looks_takesIn (M := M) X ht
  exact L1.andThen (L2.andThen ((show Looks M h (dataDescriptor? (some a) (some g)) (some (g, a)) from L3.andThen .now).andThen (Looks.tag .now)))

theorem get_sub {prog : Program} {w : World} {A : Around} {E : Value → Shared → Prop} {s : Shared} {x : Addr} {dd : Option Addr} {v0 v1 : Value} {n : Nat} {name : Str} {expr : Bool} {Q : Value → Shared → Prop} {g a : Value}
    (X : (hd.heap_39 w.params).In s.heap) (hx : s.heap.get? x = some (shareObj dd v0 v1 n)) (ha : findIn (hd.heap_39 w.params) (.ref 145) name = some (some a)) (hg : specialIn (hd.heap_39 w.params) a (Str.ofString "__get__") = some (some g)) (ht : takesIn (hd.heap_39 w.params) a = some true)
    (h : wpAny (model prog w) A.in1 (PySem.call g [a, .ref x, .ref 145]) (fun v s' => wpAny (model prog w) A (handedOut v) Q E s') (fun _ _ => False) { s with toks := s.toks + 1 }) :
    wpAny (model prog w) A (getAttr (.ref x) name expr) Q E s := by
  obtain ⟨hh, gs, d, t, os⟩ := s
  have L0 : Looks (model prog w) hh (typeOf (.ref x)) (.ref 145) := (Looks.ld (part := none) hx).andThen .now
  have L1 := looks_findIn (M := model prog w) X (fi_ga w)
  have L2 := looks_findIn (M := model prog w) X (fi_gattr w)
  have L3 := looks_data (M := model prog w) X ha hg ht (.ref x)
  unfold getAttr getAttrBy
  refine wpAny_bind (wpAny_mkText (wpAny_holding (wpAny_bind (L0.at (wpAny_bind (L1.at ?_))))))
  show wpAny _ _ (getAttrByItsOwn _ _ _ _ _ _) _ _ _
  unfold getAttrByItsOwn
  refine wpAny_bind (show wpAny _ _ (typeLookup (.ref 145) (Str.ofString "__getattr__")) _ _ _ from L2.at ?_)
  refine wpAny_bind (wpAny_attempt (wpAny_holding ?_))
  show wpAny _ _ (callGetattribute (.ref x) (.str name t) (.builtin "tuple.__getattribute__") expr) _ _ _
  have hc : callGetattribute (.ref x) (.str name t) (.builtin "tuple.__getattribute__") expr = boundAndCalled (.builtin "tuple.__getattribute__") (.ref x) (.str name t) := by
    unfold callGetattribute
    cases expr <;> rfl
  rw [hc]
  unfold boundAndCalled
  rw [F.slot_tuple_getattribute.bind]
  refine wpAny_bind (wpAny_pure ?_)
  show wpAny _ _ (PySem.call (.builtin "tuple.__getattribute__") [.ref x, .str name t]) _ _ _
  have hs : splitId "tuple.__getattribute__" = some ("tuple", "__getattribute__") := by decide +kernel
  have hk2 : (Manifest.find? "tuple").bind (·.attrs.lookup "__getattribute__") = some .slot ∨ (Manifest.find? "tuple").bind (·.attrs.lookup "__getattribute__") = some .method := by first | exact .inl (by decide +kernel) | exact .inr (by decide +kernel)
  refine wpAny_call ?_
  refine codeAny_call_builtin F.slot_tuple_getattribute.plain am_entry_tuple_getattribute ?_
  refine check_sub (self := .ref x) (rest := [.str name t]) (id := "tuple.__getattribute__") hs hk2 (fun Q E => share_isTuple (w := w) (s := ⟨hh, gs, d, t + 1, os⟩) X hx (mro_share w) Q E) (F.args_tuple_getattribute_2 _ _) ?_
  unfold Builtin.«object.__getattribute__»
  refine wpAny_bind (wpAny_pure ?_)
  refine wpAny_bind (wpAny_pure ?_)
  refine wpAny_bind (L0.at ?_)
  refine wpAny_bind (L3.at ?_)
  show wpAny _ _ (holding [a] (PySem.call g [a, .ref x, .ref 145]) >>= ret) _ _ _
  refine wpAny_bind (wpAny_holding (wpAny_mono h (fun v s' z => wpAny_pure ?_) fun _ _ z => z.elim))
  exact z

theorem Keeps.after_tok {s s' : Shared} (h : Keeps { s with toks := s.toks + 1 } s') : Keeps s s' := by
  obtain ⟨h', tk, rfl, k⟩ := h
  exact ⟨h', tk, rfl, k⟩

section
variable {w : World} {p : Program} {loose : List Str} {mean : ExcName → Option Value} {mg mb : Str → Option Value} {A : Around} {s : Shared} {Q E : Value → Shared → Prop}
theorem attr_free {x : Addr} {dd : Option Addr} {v0 v1 : Value} {n : Nat} {name : Str} {e : Bool} {i : Int} (hn : name = Str.ofString "x" ∧ i = 0 ∨ name = Str.ofString "data" ∧ i = 1) (hh : A.handled = none) (hdp : A.depth + 2 < recursionLimit) (hu : A.units + 17 < cLine)
    (X : (hd.heap_39 w.params).In s.heap) (T : Top p loose mean mg mb s.heap) (hx : s.heap.get? x = some (shareObj dd v0 v1 n)) (hv : handedIn (if i = 0 then v0 else v1) = true)
    (hret : ∀ s', Keeps s s' → Q (if i = 0 then v0 else v1) s') :
    wpAny (model PySem.Challenge.rw_jb0038_01.row.prog w) A (getAttr (.ref x) name e) Q E s := by
  have h1 : A.in1.handled = none := hh
  have h2 : A.in1.depth + 2 < recursionLimit := hdp
  have h3 : A.in1.units + 16 < cLine := by show A.units + 1 + 16 < cLine; omega
  rcases hn with ⟨rfl, rfl⟩ | ⟨rfl, rfl⟩
  · refine get_sub X hx (fi_x w) (sp_x w) (tk_x w) (get_free (i := 0) (s := { s with toks := s.toks + 1 }) (.inl ⟨rfl, rfl⟩) h1 h2 h3 X T hx fun s' hk => ?_)
    rw [handedOut_of hv]
    exact wpAny_pure (hret _ (Keeps.after_tok hk))
  · refine get_sub X hx (fi_d w) (sp_d w) (tk_d w) (get_free (i := 1) (s := { s with toks := s.toks + 1 }) (.inr ⟨rfl, rfl⟩) h1 h2 h3 X T hx fun s' hk => ?_)
    rw [handedOut_of hv]
    exact wpAny_pure (hret _ (Keeps.after_tok hk))
end
end Mine
end

-- part JH
section
open PySem PySem.W PySem.Calls PyProof.Rows
namespace Mine
set_option maxRecDepth 100000
set_option maxHeartbeats 1000000
set_option linter.unusedVariables false
theorem fill6 (w : World) (h : Heap) : (hd.heap_39 w.params).In h → PySem.Challenge.rw_jb0038_01.row.prog = PySem.Challenge.rw_jb0038_01.row.prog := by
  k_fill
  exact fun _ => rfl

section
variable {M : Model} {w : World} {h : Heap}
theorem pk_check (X : (hd.heap_39 w.params).In h) (t : Addr) : Looks M h (checkBuiltinCall "tuple.__new__" ⟨[.ref 145, .ref t], []⟩) () := by
  refine Looks.of_peek X ?_
  kernel_rfl
theorem pk_isType (X : (hd.heap_39 w.params).In h) : Looks M h (isType (.ref 145)) true := by
  refine Looks.of_peek X ?_
  kernel_rfl
theorem pk_subTuple (X : (hd.heap_39 w.params).In h) : Looks M h (isSubtype (.ref 145) (.type "tuple")) true := by
  refine Looks.of_peek X ?_
  kernel_rfl
theorem pk_madeHere (X : (hd.heap_39 w.params).In h) : Looks M h (Bind.madeHere "tuple.__new__" (.ref 145)) () := by
  refine Looks.of_peek X ?_
  kernel_rfl
theorem pk_init (X : (hd.heap_39 w.params).In h) : Looks M h (typeLookup (.ref 145) "__init__") (some (.builtin "object.__init__")) := by
  refine Looks.of_peek X ?_
  kernel_rfl
theorem pk_del (X : (hd.heap_39 w.params).In h) : Looks M h (classHasDel 145) false := by
  refine Looks.of_peek X ?_
  kernel_rfl
theorem pk_madeBy (X : (hd.heap_39 w.params).In h) : Looks M h (Bind.madeBy (.ref 145)) none := by
  refine Looks.of_peek X ?_
  kernel_rfl
theorem pk_mro (X : (hd.heap_39 w.params).In h) : Looks M h (mroOf (.ref 145)) [.ref 145, .type "tuple", .type "object"] := by
  refine Looks.of_peek X ?_
  kernel_rfl
theorem pk_call (X : (hd.heap_39 w.params).In h) : Looks M h (specialOf (.ref 145) "__call__") (some (.builtin "type.__call__")) := by
  refine Looks.of_peek X ?_
  kernel_rfl
theorem pk_instType (X : (hd.heap_39 w.params).In h) : Looks M h (isInstance (.ref 145) (.type "type")) true := by
  refine Looks.of_peek X ?_
  kernel_rfl
theorem pk_self (X : (hd.heap_39 w.params).In h) : Looks M h (isSubtype (.ref 145) (.ref 145)) true := by
  refine Looks.of_peek X ?_
  kernel_rfl
theorem pk_subObj (X : (hd.heap_39 w.params).In h) : Looks M h (isSubtype (.ref 145) (.type "object")) true := by
  refine Looks.of_peek X ?_
  kernel_rfl
end
end Mine
end

-- part JI
section
open PySem PySem.W PySem.Calls PyProof.Rows
namespace Mine
set_option maxRecDepth 100000
set_option maxHeartbeats 1000000
set_option linter.unusedVariables false
theorem fill7 (w : World) (h : Heap) : (hd.heap_39 w.params).In h → PySem.Challenge.rw_jb0038_01.row.prog = PySem.Challenge.rw_jb0038_01.row.prog := by
  k_fill
  exact fun _ => rfl

theorem entry_tuple_new' : entryFor table "tuple.__new__" = some Builtin.«tuple.__new__» := entryFor_of_tree (by kernel_rfl)
theorem plain_tuple_new' : plainId "tuple.__new__" = true := by decide +kernel

theorem fc_tuple_new (w : World) : findCls (hd.heap_39 w.params) (.type "tuple") (.type "type") (Str.ofString "__new__") = some (.val (.builtin "tuple.__new__")) := by k_is
theorem mt_tuple_new {w : World} {prog : Program} {A : Around} {E : Value → Shared → Prop} {s : Shared} {h₀ : Heap} {L : Addr} {m : Str → Option Value} {pl : Sem Bool} {Q : Value × List Value → Shared → Prop} (F : Fr h₀ L s.heap m) (X₀ : (hd.heap_39 w.params).In h₀) (h : Q (.builtin "tuple.__new__", []) { s with toks := s.toks + 1 }) : wpAny (model prog w) A (getMethod (.type "tuple") (Str.ofString "__new__") pl) Q E s :=
  method_type (T := "tuple") (name := Str.ofString "__new__") (v := .builtin "tuple.__new__") F X₀ ty_tuple stub_tuple (fc_tuple_new w) (by decide +kernel) h
theorem fresh_of {h h' : Heap} {x : Addr} (hk : ∀ b o, h.get? b = some o → h'.get? b = some o) (hx : h'.objs.size ≤ x) : h.get? x = none := by
  cases hq : h.get? x with
  | none => rfl
  | some o => exact absurd (Heap.lt_size (hk _ _ hq)) (Nat.not_lt.mpr hx)

section
variable {prog : Program} {w : World} {A : Around} {s : Shared} {Q E : Value → Shared → Prop}
theorem tuple_new_share {t : Addr} {v0 v1 : Value} {ot : Obj} {n : Nat} (X : (hd.heap_39 w.params).In s.heap) (ht : s.heap.get? t = some ot) (hc : ot.cls = .type "tuple") (hd9 : ot.data = .seq #[v0, v1] n)
    (hret : ∀ x dd h' tk, (∀ b o, s.heap.get? b = some o → h'.get? b = some o) → s.heap.get? x = none → h'.get? x = some (shareObj dd v0 v1 0) → Q (.ref x) { s with heap := h', toks := tk }) :
    wpAny (model prog w) A (PySem.call (.builtin "tuple.__new__") [.ref 145, .ref t]) Q E s := by
  obtain ⟨hh, gs, d, tk, os⟩ := s
  dsimp only at X ht
  have L0 := pk_check (M := model prog w) X t
  have L1 := pk_isType (M := model prog w) X
  have L2 := pk_subTuple (M := model prog w) X
  have L3 := pk_madeHere (M := model prog w) X
  have L4 := pk_init (M := model prog w) X
  refine wpAny_call ?_
  refine codeAny_call_builtin plain_tuple_new' entry_tuple_new' ?_
  refine L0.at ?_
  unfold Builtin.«tuple.__new__»
  repeat (first | (fail_if_success (with_reducible show wpAny _ _ (collect _) _ _ _)); lk)
  refine wpAny_collect_seq t (.inr rfl) ht hc hd9 (fun h' hk => ?_) (by show 2 ≤ sizeLine; decide)
  dsimp only
  refine wpAny_bind (wpAny_pure ?_)
  refine wpAny_bind (wpAny_alloc ?_)
  refine wpAny_bind ?_
  unfold newObj
  dsimp only
  have hsz : ¬ ((#[v0, v1] : Array Value).toList.toArray.size > sizeLine) := by show ¬ (2 > sizeLine); decide
  rw [if_neg hsz]
  unfold newObjAsIs
  have X2 : (hd.heap_39 w.params).In ((h'.push { cls := .type "dict", data := .dict #[] }).push { cls := .ref 145, dict := some h'.objs.size, data := .seq (#[v0, v1] : Array Value).toList.toArray }) := X.keeps fun b o e => Heap.get?_push_of_some _ (Heap.get?_push_of_some _ (hk b o e))
  have L5 := pk_del (M := model prog w) X2
  refine wpAny_bind (wpAny_alloc ?_)
  dsimp only
  refine wpAny_bind (L5.at ?_)
  simp only [Bool.false_eq_true, if_false]
  refine wpAny_pure (wpAny_pure ?_)
  refine hret _ (some h'.objs.size) _ _ (fun b o e => Heap.get?_push_of_some _ (Heap.get?_push_of_some _ (hk b o e))) ?_ (Heap.get?_push_size _ rfl)
  exact fresh_of (fun b o e => hk b o e) (by rw [Heap.size_push]; exact Nat.le_succ _)

variable {p : Program} {loose : List Str} {mean : ExcName → Option Value} {mg mb : Str → Option Value}
theorem new_fn {v0 v1 : Value} (hdp : A.depth + 1 < recursionLimit)
    (X : (hd.heap_39 w.params).In s.heap) (T : Top p loose mean mg mb s.heap)
    (hret : ∀ x dd h' tk, (∀ b o, s.heap.get? b = some o → h'.get? b = some o) → s.heap.get? x = none → h'.get? x = some (shareObj dd v0 v1 0) → Q (.ref x) { s with heap := h', toks := tk }) :
    wpAny (model PySem.Challenge.rw_jb0038_01.row.prog w) A (PySem.call (.ref 95) [.ref 145, v0, v1]) Q E s := by
  refine wpAny_call ?_
  k_dflt (refine' code_free ?k1 ?k2 ?k6 ?k7 ?k8 ?k9 ?kB ?_ ?c2 ?c3 ?c4 ?c5; (case k1 => k_asm); (case k2 => k_asm); (case k6 => k_is); (case k7 => k_is); (case k8 => omega); (case k9 => exact BindsTo.of_eq rfl); (case c5 => decide); (case kB => exact locs rfl); (case c2 => exact rfl); (case c3 => exact rfl); (case c4 => exact rfl); k_whole)
  intro L1 h1 F1 N1
  k_steps
  rename Fr _ _ _ _ => F2
  refine mt_tuple_new F2 X ?_
  k_steps
  rename Fr _ _ _ _ => F3
  rename News _ _ _ _ => N3
  refine tuple_new_share (w := w) (v0 := v0) (v1 := v1) (X.keeps F3.keep) (N3 _ (.head _)).1 rfl rfl fun x dd h' tk k fx hx => ?_
  refine hret x dd h' _ (fun b o e => k b o (F3.keep b o e)) ?_ hx
  cases hq : s.heap.get? x with
  | none => rfl
  | some o => exact absurd ((F3.keep _ _ hq).symm.trans fx) nofun

theorem sm_new (w : World) : recIn (hd.heap_39 w.params) 146 "staticmethod" = some [.ref 95] := by k_is
theorem fc_new (w : World) : findCls (hd.heap_39 w.params) (.ref 145) (.type "type") (Str.ofString "__new__") = some (.get (.builtin "staticmethod.__get__") (.ref 146) .none (.ref 145)) := by k_is
theorem ti_new (w : World) : typeIn (hd.heap_39 w.params) (.ref 145) = some (.type "type") := by k_is
theorem rd_new (w : World) : readsIn (hd.heap_39 w.params) 145 (.type "type") = true := by k_is

theorem cls_obj {w : World} {h : Heap} (X : (hd.heap_39 w.params).In h) : ∃ oc od cd sl, h.get? 145 = some ⟨oc, od, .cls cd, sl⟩ := by
  have c := cls_share w
  unfold isClsIn clsIn at c
  cases ho : (hd.heap_39 w.params).lookup 145 with
  | none => rw [ho] at c; exact Bool.noConfusion (c : false = true)
  | some o =>
    rw [ho] at c
    obtain ⟨oc, od, dt, sl⟩ := o
    cases dt <;> first | exact Bool.noConfusion (c : false = true) | exact ⟨_, _, _, _, X _ _ ho⟩
theorem share_inst {M : Model} {w : World} {s : Shared} {l : Addr} {dd : Option Addr} {v0 v1 : Value} {n : Nat} (X : (hd.heap_39 w.params).In s.heap) (hl : s.heap.get? l = some (shareObj dd v0 v1 n)) {b : Value} (L : Looks M s.heap (isSubtype (.ref 145) b) true) : Looks M s.heap (isInstance (.ref l) b) true := by
  have L0 : Looks M s.heap (typeOf (.ref l)) (.ref 145) := (Looks.ld (part := none) hl).andThen .now
  exact fun A Q E s' k q => wpAny_bind (L0 A _ E s' k (L A Q E s' k q))

end
end Mine
end

-- part JJ
section
open PySem PySem.W PySem.Calls PyProof.Rows
namespace Mine
set_option maxRecDepth 100000
set_option maxHeartbeats 1000000
set_option linter.unusedVariables false
section
variable {prog : Program} {w : World} {A : Around} {s : Shared} {Q E : Value → Shared → Prop}
variable {p : Program} {loose : List Str} {mean : ExcName → Option Value} {mg mb : Str → Option Value}
theorem oi_args2 (a b c : Value) : argsOk "object.__init__" ⟨[a, b, c], []⟩ := by unfold argsOk; kernel_rfl
theorem new_free {v0 v1 : Value} (hh : A.handled = none) (hdp : A.depth + 4 < recursionLimit) (hu : A.units + 8 < cLine)
    (X : (hd.heap_39 w.params).In s.heap) (T : Top p loose mean mg mb s.heap)
    (hret : ∀ x dd h' tk, (∀ b o, s.heap.get? b = some o → h'.get? b = some o) → s.heap.get? x = none → h'.get? x = some (shareObj dd v0 v1 0) → Q (.ref x) { s with heap := h', toks := tk }) :
    wpAny (model PySem.Challenge.rw_jb0038_01.row.prog w) A (PySem.call (.ref 145) [v0, v1]) Q E s := by
  obtain ⟨hh', gs, d, tk, os⟩ := s
  dsimp only at X T
  obtain ⟨oc, od, cd, sl, hC⟩ := cls_obj X
  have L0 := pk_call (M := model PySem.Challenge.rw_jb0038_01.row.prog w) X
  have L1 := pk_mro (M := model PySem.Challenge.rw_jb0038_01.row.prog w) X
  have L2 := pk_madeBy (M := model PySem.Challenge.rw_jb0038_01.row.prog w) X
  refine wpAny_call ?_
  refine codeAny_of_tree ?_
  show wpAny _ _ (callAny (.ref 145) _) _ _ _
  refine nd_load hC ?_
  show wpAny _ _ (callAny.viaDunder (.ref 145) _) _ _ _
  unfold callAny.viaDunder
  refine wpAny_bind (L0.at ?_)
  dsimp only
  rw [tc_bind]
  refine wpAny_bind (wpAny_pure (wpAny_bind (wpAny_pure ?_)))
  refine wpAny_pure (a := Fin.again (.call (.builtin "type.__call__") ⟨.ref 145 :: [v0, v1], []⟩)) (And.intro rfl ?_)
  refine codeAny_call_builtin_at (Code.quiet_builtin _ (by decide +kernel)) entry_typeCall (check_slot tc_kind tc_split (pk_instType X) (tc_args _ _ _) ?_)
  unfold Builtin.«type.__call__»
  repeat (first | (fail_if_success (with_reducible show wpAny _ _ (getAttr _ _ _) _ _ _)); lk)
  refine cls_bind X (rd_new w) (fc_new w) (wpAny_call (sm_get (s := ⟨hh', gs, d, tk + 1, os⟩) X (sm_new w) (handed_on (by decide) ?_)))
  refine wpAny_bind (wpAny_holding ?_)
  refine new_fn (by simp only [depth_under_make]; omega) X T (fun x dd h' tk' k fx hx => ?_)
  have X2 := X.keeps k
  have M1 := share_inst (M := model PySem.Challenge.rw_jb0038_01.row.prog w) (s := ⟨h', gs, d, tk', os⟩) X2 hx (pk_self X2)
  have M2 : Looks (model PySem.Challenge.rw_jb0038_01.row.prog w) h' (typeOf (.ref x)) (.ref 145) := (Looks.ld (part := none) hx).andThen .now
  have M3 := pk_init (M := model PySem.Challenge.rw_jb0038_01.row.prog w) X2
  have M4 := pk_madeBy (M := model PySem.Challenge.rw_jb0038_01.row.prog w) X2
  have M5 := share_inst (M := model PySem.Challenge.rw_jb0038_01.row.prog w) (s := ⟨h', gs, d, tk', os⟩) X2 hx (pk_subObj X2)
  dsimp only
  refine wpAny_bind (M1.at ?_)
  simp only [Bool.not_true, Bool.false_eq_true, if_false]
  refine wpAny_bind (wpAny_holding ?_)
  unfold callSpecial? specialOf
  refine wpAny_bind (wpAny_bind (M2.at (M3.at ?_)))
  dsimp only
  refine wpAny_holding ?_
  rw [oi_bind]
  refine wpAny_bind (wpAny_pure ?_)
  dsimp only
  refine wpAny_bind (wpAny_call ?_)
  refine codeAny_call_builtin oi_plain entry_oi (check_slot (self := .ref x) (rest := [v0, v1]) (kw := []) oi_kind oi_split M5 (oi_args2 _ _ _) ?_)
  unfold Builtin.«object.__init__»
  repeat (first | (fail_if_success (with_reducible show wpAny _ _ (ret _) _ _ _)); lk)
  refine wpAny_pure ?_
  refine wpAny_pure ?_
  exact wpAny_pure (hret x dd h' tk' k fx hx)

/-- the same, told over a frame and its ledger -/
theorem new_c {dp un : Nat} {gd : Option (List Code)} {cn : Str} {cs : Scope} {a : Addr} {ccd : Value} {cl : List (Str × Addr)} {outer : List Env} {h₀ : Heap} {L : Addr} {m : Str → Option Value} {news : List (Addr × Obj)} {v0 v1 : Value}
    (F : Fr h₀ L s.heap m) (X : (hd.heap_39 w.params).In h₀) (N : News h₀ L s.heap news) (T : Top p loose mean mg mb h₀)
    (hd9 : dp + 4 < recursionLimit) (hu9 : un + 8 < cLine)
    (hret : ∀ x dd h' tk, Fr h₀ L h' m → News h₀ L h' ((x, shareObj dd v0 v1 0) :: news) → (∀ p ∈ news, p.1 ≠ x) → Q (.ref x) { s with heap := h', toks := tk }) :
    wpAny (model PySem.Challenge.rw_jb0038_01.row.prog w) (ktrTop dp un gd cn cs L a ccd cl outer) (PySem.call (.ref 145) [v0, v1]) Q E s := by
  refine new_free rfl hd9 hu9 (X.keeps F.keep) (T.keeps F.keep) fun x dd h' tk k fx hx => ?_
  obtain ⟨oL, es, ep, hL, r⟩ := F.ns
  have n1 : ∀ b o, s.heap.get? b = some o → b ≠ x := fun b o e q => by rw [q, fx] at e; cases e
  refine hret x dd h' tk ⟨⟨oL, es, ep, k _ _ hL, r⟩, fun b o e => k _ _ (F.keep b o e), F.above⟩ (fun p hp => ?_) fun p hp => n1 _ _ (N p hp).1
  rcases List.mem_cons.mp hp with rfl | hp
  · refine ⟨hx, Ne.symm (n1 _ _ hL), ?_⟩
    cases hq : h₀.get? x with
    | none => rfl
    | some o => exact absurd (F.keep _ _ hq) (by rw [fx]; exact nofun)
  · exact ⟨k _ _ (N p hp).1, (N p hp).2.1, (N p hp).2.2⟩
end
end Mine
end

-- part JK
section
open PySem PySem.W PySem.Calls PyProof.Rows
namespace Mine
set_option maxRecDepth 100000
set_option maxHeartbeats 1000000
set_option linter.unusedVariables false

section
variable {prog : Program} {w : World} {p : Program} {loose : List Str} {mean : ExcName → Option Value} {mg mb : Str → Option Value} {A : Around} {E : Value → Shared → Prop} {s : Shared} {h₀ : Heap} {L a c P : Addr} {m : Str → Option Value} {cn : Str} {cs : Scope} {ccd : Value} {cl : List (Str × Addr)} {news : List (Addr × Obj)} {g : Obj → List (Addr × Obj)} {ps : Array Value}

/-- the code object of a generator expression: made, or found again -/
theorem genCode {pos : Pos} {qn : Str} {scope : Scope} {env : Env} {Q : Value → Shared → Prop} (hcd : env.code = .ref c) (C : CodeHd s.heap c P) (hP : s.heap.get? P = some (tabObj ps)) (ht : TriplesOk ps.toList)
    (h : ∀ (cv : Value) h' tk ps', TriplesOk ps'.toList → h'.get? P = some (tabObj ps') → Heap.ExtBut P s.heap h' → s.heap.objs.size ≤ h'.objs.size → Q cv { s with heap := h', toks := tk }) :
    wpAny (model prog w) A (genexprCode env pos qn scope) Q E s := by
  cases hnf : codeAmong pos ps.toList with
  | none =>
    refine wpAny_genexprCodeX hcd (C.code hP ht) (C.tab hP) hnf fun c' h' tk hx hge hlt hc' _ htab _ => ?_
    refine h _ h' tk _ ?_ htab.2 hx (Nat.le_trans hge (Nat.le_of_lt hlt))
    obtain ⟨o', vs', file', tf', flags', tg', inF', text', tt', op', ho', _, _, _, _, _, _, hop', hpd', htr', _⟩ := hc'
    exact htr'
  | some cv => exact wpAny_genexprCode_hit hcd (C.code hP ht) hnf (h cv s.heap s.toks ps ht hP (fun _ _ _ e => e) (Nat.le_refl _))

theorem gen_back {h₃ h₅ : Heap} {own rest : List (Addr × Obj)} {ps' : Array Value} (hgr : ∀ o', g o' = own ++ (P, o') :: rest) (N3 : ∀ q, q ∈ own ∨ q ∈ rest → h₃.get? q.1 = some q.2 ∧ q.1 ≠ L ∧ h₀.get? q.1 = none) (hP' : h₃.get? P = some (tabObj ps')) (hPL : P ≠ L ∧ h₀.get? P = none)
    (hk₅ : ∀ b o, h₃.get? b = some o → h₅.get? b = some o) : News h₀ L h₅ (g (tabObj ps')) := fun q hq => by
  rw [hgr] at hq
  rcases List.mem_append.mp hq with hq | hq
  · exact ⟨hk₅ _ _ (N3 q (.inl hq)).1, (N3 q (.inl hq)).2⟩
  · rcases List.mem_cons.mp hq with rfl | hq
    · exact ⟨hk₅ _ _ hP', hPL⟩
    · exact ⟨hk₅ _ _ (N3 q (.inr hq)).1, (N3 q (.inr hq)).2⟩
theorem le_back {own rest : List (Addr × Obj)} {ps' : Array Value} {K : Addr} (hgr : ∀ o', g o' = own ++ (P, o') :: rest) (hK : ∀ q ∈ own ++ (P, tabObj ps) :: rest, q.1 ≤ K) : ∀ q ∈ g (tabObj ps'), q.1 ≤ K := fun q hq => by
  rw [hgr] at hq
  rcases List.mem_append.mp hq with hq | hq
  · exact hK q (List.mem_append_left _ hq)
  · rcases List.mem_cons.mp hq with rfl | hq
    · exact hK (P, tabObj ps) (List.mem_append_right _ (.head _))
    · exact hK q (List.mem_append_right _ (.tail _ hq))
theorem passing_len (n : Nat) : (passing (fun _ => true) n 0).length = n := by
  rw [show passing (fun _ => true) n 0 = List.range n from List.filter_eq_self.mpr fun _ _ => rfl, List.length_range]
theorem passing_at {n j i : Nat} (e : (passing (fun _ => true) n 0)[j]? = some i) : i = j := by
  rw [show passing (fun _ => true) n 0 = List.range n from List.filter_eq_self.mpr fun _ _ => rfl] at e
  obtain ⟨hj, e⟩ := List.getElem?_eq_some_iff.mp e
  rw [List.getElem_range] at e
  exact e.symm

/-- a generator expression over one name: what its walk needs, told over the ledger -/
theorem gen_led {elt iter : Expr} {x : Str} {px : Pos} {scope : Scope} {clo : List (Str × Addr)} {pos : Pos} {Q : Value → Shared → Prop}
    (F : Fr h₀ L s.heap m) (N : News h₀ L s.heap news) (T : Top p loose mean mg mb h₀) (C : CodeHd h₀ c P) (hcd : ccd = .ref c) (U : UpdF P (tabObj ps) news g) (ht : TriplesOk ps.toList)
    (hh : A.handled = none) (hclos : closureFor scope (envX cn cs L a ccd cl) = pure clo) (hroom : A.depth < recursionLimit)
    (h : wpAny (model prog w) A (eval iter (envX cn cs L a ccd cl)) (fun xv s₁ => Keeps s s₁ ∧ wpAny (model prog w) A (pyIter xv) (fun it s₂ => Keeps s₁ s₂ ∧
      ∃ K I fp wr n₀ Pi St₀, ∃ (Fv : Nat → Value → Prop), L ≤ K ∧ K < s₂.heap.objs.size ∧ (∀ q ∈ news, q.1 ≤ K) ∧ it = .ref I ∧ (∀ A' : Around, A'.handled = none → Walks prog w A' I fp wr n₀ Pi St₀) ∧ St₀ 0 s₂.heap ∧ (∀ b ∈ fp, b < s₂.heap.objs.size) ∧ P ∉ fp ∧ (∀ b ∈ wr, K < b ∧ s.heap.get? b = none) ∧
        (∀ (cv : Value) (D : Addr) (A' : Around) E' i v (t : Shared) m₂, A'.handled = none → A'.depth ≤ A.depth + 1 → A'.units ≤ A.units + 8 → Pi i v → t.heap.Ns D m₂ → m₂ x = some v →
          (∀ b o, b ≠ P → s.heap.get? b = some o → t.heap.get? b = some o) →
          wpAny (model prog w) A' (eval elt (genEnv scope clo D cv builtinsNs (envX cn cs L a ccd cl))) (fun y s₃ => Fv i y ∧ Keeps t s₃) E' t) ∧
        (∀ a' h₅ tk gs ps', gs.bare = true → TriplesOk ps'.toList → Fr h₀ L h₅ m → News h₀ L h₅ (g (tabObj ps')) → (∀ q ∈ g (tabObj ps'), q.1 ≤ K) → K < h₅.objs.size → 
          Gen prog w A K a' n₀ Fv { s with heap := h₅, toks := tk, gens := s.gens.push gs } →
          Q (.ref a') { s with heap := h₅, toks := tk, gens := s.gens.push gs })) E s₁) E s)
    (hs : ∀ x, genFold iter (envX cn cs L a ccd cl) x = pure x)
    (hco : scope.isCoroutine = false) (hcell : ∀ y ∈ scope.names, y.2 ≠ .cell) (h0 : scope.names.lookup (".0" : Str) = some NameKind.local)
    (hx : scope.names.lookup x = some .local) (hkind : scope.kind = .function) :
    wpAny (model prog w) A (eval (.GeneratorExp elt [⟨.Name x px, iter, [], 0⟩] scope pos) (envX cn cs L a ccd cl)) Q E s := by
  obtain ⟨own, rest, rfl, hgr, u1, u2⟩ := U.split
  have hm := N (P, tabObj ps) (List.mem_append_right _ (.head _))
  have hLs : L < s.heap.objs.size := F.ns.lt
  refine wpAny_GeneratorExp_walksQD hh hco hclos hcell h0 hx hkind hroom (wpAny_mono h (fun xv s₁ h₁' => ?_) fun _ _ e => e) hs
  obtain ⟨⟨H₁, k₁, rfl, K₁⟩, h₁'⟩ := h₁'
  refine wpAny_mono h₁' (fun it s₂ h₂ => ?_) fun _ _ e => e
  obtain ⟨⟨H₂, k₂, rfl, K₂⟩, K, I, fp, wr, n₀, Pi, St₀, Fv, hLK, hKs, hNK, rfl, W₀, hst, hfp, hPf, hwr, hq, hQ⟩ := h₂
  dsimp only at *
  have F₂ : Fr h₀ L H₂ m := ⟨F.ns.keeps fun b o e => K₂ b o (K₁ b o e), fun b o e => K₂ b o (K₁ b o (F.keep b o e)), F.above⟩
  have hP₂ : H₂.get? P = some (tabObj ps) := K₂ _ _ (K₁ _ _ hm.1)
  have hl₂ : H₂.NoLimit := T.nolimit.keeps F₂.keep
  refine ⟨hl₂, genCode (s := { s with heap := H₂, toks := k₂ }) hcd (C.keeps F₂.keep) hP₂ ht fun cv h₃ tk₃ ps' ht' hP' hx₃ hsz => ?_⟩
  dsimp only at *
  have hcP : cStatics ≠ P := fun e => by
    obtain ⟨_, hns, _⟩ := hl₂
    obtain ⟨o, es, ep, ho, hd, _⟩ := hns
    rw [e, hP₂] at ho; cases ho; cases hd
  have hl₃ : h₃.NoLimit := hl₂.extBut hx₃ hcP
  have old₃ : ∀ b o, h₀.get? b = some o → h₃.get? b = some o := fun b o e => hx₃ b o (fun q => by rw [q, hm.2.2] at e; cases e) (F₂.keep b o e)
  have F₃ : Fr h₀ L h₃ m := ⟨F₂.ns.extBut hx₃ hm.2.1.symm, old₃, F.above⟩
  have hgs := T.g.keeps old₃
  obtain ⟨bm, ob, b1, b2, b3, b4, b5, b6⟩ := T.bmain
  refine wpAny_builtinsFor hgs b1 b2 (old₃ _ _ b3) b4 b5 b6 ?_
  have hcw : cStatics ∉ wr := fun hmem => by
    have h1 : K < cStatics := (hwr _ hmem).1
    have h2 : L ≤ 1 := Nat.le_trans hLK (Nat.le_of_lt_succ h1)
    have h3 : bm < 1 := Nat.lt_of_lt_of_le (Heap.lt_size b3) (Nat.le_trans F.above h2)
    exact b2 (Nat.lt_one_iff.mp h3)
  have hfp₃ : ∀ b ∈ fp, b < h₃.objs.size := fun b hb => Nat.lt_of_lt_of_le (hfp b hb) hsz
  refine ⟨I, fp, wr, n₀, Pi, St₀, (fun _ => true), Fv, rfl, W₀, (W₀ A hh).frame _ _ _ hst (fun b hb o e => hx₃ b o (fun e' => hPf (e' ▸ hb)) e), hfp₃, hl₃, hcw, (fun href hhref => ?_), fun a' h₅ tk gs hgb hag hsz₅ hk₅ W hat => ?_⟩
  · refine ⟨fun A' E' i v t m₂ _ _ _ _ _ _ _ => wpAny_pure ⟨rfl, ⟨t.heap, t.toks, rfl, fun _ _ e => e⟩⟩, fun A' E' i v t m₂ hA hD hU hP' _ hn hmx hkp => hq cv _ A' E' i v t m₂ hA hD hU hP' hn hmx fun b o hbP e => ?_⟩
    have e3 := hx₃ b o hbP (K₂ b o (K₁ b o e))
    exact hkp b (List.mem_range.mpr (Heap.lt_size e3)) (fun hbw => by rw [(hwr b hbw).2] at e; cases e) o (hhref b o e3)
  · refine hQ a' h₅ tk gs ps' hgb ht' (F₃.keeps hk₅) (gen_back hgr (fun q hq => ?_) hP' hm.2 hk₅) (le_back hgr hNK) (by rw [hsz₅]; exact Nat.lt_succ_of_lt (Nat.lt_trans (Nat.lt_of_lt_of_le hKs hsz) hag)) ?_
    · rcases hq with hq | hq
      · have n := N q (List.mem_append_left _ hq)
        exact ⟨hx₃ _ _ (u1 q hq) (K₂ _ _ (K₁ _ _ n.1)), n.2⟩
      · have n := N q (List.mem_append_right _ (.tail _ hq))
        exact ⟨hx₃ _ _ (u2 q hq) (K₂ _ _ (K₁ _ _ n.1)), n.2⟩
    · rw [passing_len] at W
      refine ⟨_, _, _, _, W.imp (P' := Fv) (fun j y ⟨i, hi, hF⟩ => passing_at hi ▸ hF), hat, (fun i s' st => st.1.typeIs), List.mem_cons_self, ?_, ?_⟩
      · intro b hb
        show b < h₅.objs.size
        rw [hsz₅]
        rcases List.mem_cons.mp hb with rfl | hb
        · exact Nat.lt_succ_self _
        · rcases List.mem_cons.mp hb with rfl | hb
          · exact Nat.lt_succ_of_lt hag
          · exact Nat.lt_succ_of_lt (Nat.lt_trans (List.mem_range.mp hb) hag)
      · intro b hb
        rcases List.mem_cons.mp hb with rfl | hb
        · exact Nat.lt_of_lt_of_le hKs hsz
        · exact (hwr b hb).1

theorem gen_list {elt iter : Expr} {x : Str} {px : Pos} {scope : Scope} {clo : List (Str × Addr)} {pos : Pos} {Q : Value → Shared → Prop}
    (F : Fr h₀ L s.heap m) (N : News h₀ L s.heap news) (T : Top p loose mean mg mb h₀) (C : CodeHd h₀ c P) (hcd : ccd = .ref c) (U : UpdF P (tabObj ps) news g) (ht : TriplesOk ps.toList)
    (hh : A.handled = none) (hclos : closureFor scope (envX cn cs L a ccd cl) = pure clo) (hroom : A.depth < recursionLimit)
    (h : wpAny (model prog w) A (eval iter (envX cn cs L a ccd cl)) (fun xv s₁ => Keeps s s₁ ∧ ∃ l vs, ∃ (Fv : Nat → Value → Prop), xv = .ref l ∧ s₁.heap.IsList l vs ∧
        (∀ (cv : Value) (D : Addr) (A' : Around) E' i v (t : Shared) m₂, A'.handled = none → A'.depth ≤ A.depth + 1 → A'.units ≤ A.units + 8 → vs[i]? = some v → t.heap.Ns D m₂ → m₂ x = some v →
          (∀ b o, b ≠ P → s.heap.get? b = some o → t.heap.get? b = some o) →
          wpAny (model prog w) A' (eval elt (genEnv scope clo D cv builtinsNs (envX cn cs L a ccd cl))) (fun y s₃ => Fv i y ∧ Keeps t s₃) E' t) ∧
        (∀ K a' h₅ tk gs ps', L ≤ K → gs.bare = true → TriplesOk ps'.toList → Fr h₀ L h₅ m → News h₀ L h₅ (g (tabObj ps')) → (∀ q ∈ g (tabObj ps'), q.1 ≤ K) → K < h₅.objs.size →
          Gen prog w A K a' vs.size Fv { s with heap := h₅, toks := tk, gens := s.gens.push gs } →
          Q (.ref a') { s with heap := h₅, toks := tk, gens := s.gens.push gs })) E s)
    (hs : ∀ x, genFold iter (envX cn cs L a ccd cl) x = pure x)
    (hco : scope.isCoroutine = false) (hcell : ∀ y ∈ scope.names, y.2 ≠ .cell) (h0 : scope.names.lookup (".0" : Str) = some NameKind.local)
    (hx : scope.names.lookup x = some .local) (hkind : scope.kind = .function) :
    wpAny (model prog w) A (eval (.GeneratorExp elt [⟨.Name x px, iter, [], 0⟩] scope pos) (envX cn cs L a ccd cl)) Q E s := by
  refine gen_led F N T C hcd U ht hh hclos hroom (wpAny_mono h (fun xv s₁ h₁ => ?_) fun _ _ e => e) hs hco hcell h0 hx hkind
  obtain ⟨⟨H₁, k₁, rfl, K₁⟩, l, vs, Fv, rfl, hl, hq, hQ⟩ := h₁
  refine ⟨⟨H₁, k₁, rfl, K₁⟩, wpAny_pyIter_list hl ?_⟩
  dsimp only at *
  obtain ⟨ol, hol, hcl, hdl⟩ := id hl
  have lL : L < H₁.objs.size := by obtain ⟨o, _, _, e, _⟩ := F.ns; exact Heap.lt_size (K₁ _ _ e)
  have lN : ∀ q ∈ news, q.1 < H₁.objs.size := fun q hq => Heap.lt_size (K₁ _ _ (N q hq).1)
  obtain ⟨own, rest, rfl, hgr, u1, u2⟩ := U.split
  have hm := N (P, tabObj ps) (List.mem_append_right _ (.head _))
  have hP₁ := K₁ _ _ hm.1
  have hlP : l ≠ P := fun e => by rw [e, hP₁] at hol; cases hol; cases hcl
  have hlt : l < H₁.objs.size := Heap.lt_size hol
  have pk : ∀ b o, H₁.get? b = some o → (H₁.push { cls := .type "list_iterator", data := .fields #[.ref l, .int 0 0] }).get? b = some o := fun b o e => Heap.get?_push_of_some _ e
  refine ⟨⟨_, _, rfl, pk⟩, H₁.objs.size - 1, H₁.objs.size, [H₁.objs.size, l], [H₁.objs.size], vs.size, _, _, Fv, ?_, ?_, ?_, rfl, (fun A' hA => Walks.list hA _ _ (Nat.ne_of_lt hlt) vs), ⟨⟨_, Heap.get?_push_size _ rfl, rfl, rfl⟩, hl.push _⟩, ?_, ?_, ?_, ?_, fun a' h₅ tk gs ps' hb ht' F5 N5 hK hz X => hQ _ a' h₅ tk gs ps' ?_ hb ht' F5 N5 hK hz X⟩
  · exact Nat.le_sub_one_of_lt lL
  · show H₁.objs.size - 1 < (H₁.push _).objs.size
    rw [Heap.size_push]; exact Nat.lt_succ_of_le (Nat.sub_le _ _)
  · exact fun q hq => Nat.le_sub_one_of_lt (lN q hq)
  · intro b hb
    show b < (H₁.push _).objs.size
    rw [Heap.size_push]
    rcases List.mem_cons.mp hb with rfl | hb
    · exact Nat.lt_succ_self _
    · rcases List.mem_cons.mp hb with rfl | hb
      · exact Nat.lt_succ_of_lt hlt
      · cases hb
  · intro hb
    rcases List.mem_cons.mp hb with e | hb
    · exact absurd (e ▸ Heap.lt_size hP₁) (Nat.lt_irrefl _)
    · rcases List.mem_cons.mp hb with e | hb
      · exact hlP e.symm
      · cases hb
  · intro b hb
    rcases List.mem_cons.mp hb with rfl | hb
    · refine ⟨Nat.sub_lt (Nat.lt_of_le_of_lt (Nat.zero_le _) lL) Nat.one_pos, ?_⟩
      cases q : s.heap.get? H₁.objs.size with
      | none => rfl
      | some o => exact absurd (Heap.lt_size (K₁ _ _ q)) (Nat.lt_irrefl _)
    · cases hb
  · intro cv D A' E' i v t m₂ hA hD hU hv hn hx' hk
    exact hq cv D A' E' i v t m₂ hA hD hU hv hn hx' hk
  · exact Nat.le_sub_one_of_lt lL

end
end Mine
end

-- part JL
section
open PySem PySem.W PySem.Calls PyProof.Rows
namespace Mine
set_option maxRecDepth 100000
set_option maxHeartbeats 1000000
set_option linter.unusedVariables false

theorem sub_gen_set : isSubtype (.type "generator") (.type "set") = pure false := by rw [isSubtype_type]; kernel_rfl
theorem sub_gen_frozenset : isSubtype (.type "generator") (.type "frozenset") = pure false := by rw [isSubtype_type]; kernel_rfl

section
variable {prog : Program} {w : World} {A : Around} {E : Value → Shared → Prop} {s : Shared}
theorem call_set_gen {a K : Addr} {n : Nat} {Fv : Nat → Value → Prop} {val : Nat → Int} {Q : Value → Shared → Prop}
    (hh : A.handled = none) (X : Gen prog w A K a n Fv s) (hval : ∀ i v, Fv i v → ∃ t, v = .int (val i) t) (hb : n + 1 < scanBound) (hKs : K < s.heap.objs.size)
    (h : ∀ (S : Addr) (h' : Heap) (gs : Array GenState) (tk : Nat), (AllBare s.gens → AllBare gs) → h'.SetOf (intKind prog w) S (fun k' => (firstMet val n).any (· == k')) (firstMet val n).length →
      K < S → s.heap.get? S = none → (∀ b o, b ≤ K → s.heap.get? b = some o → h'.get? b = some o) → Q (.ref S) { s with heap := h', toks := tk, gens := gs }) :
    wpAny (model prog w) A (call (.type "set") [.ref a]) Q E s := by
  obtain ⟨fp, wr, g, St, W, hst, htyp, haf, hfp, hwr⟩ := X
  obtain ⟨c, tl, hmro⟩ := F.called_set.mro
  have hmade := F.called_set.made
  have hsub := F.called_set.sub
  refine wpAny_call (codeAny_of_tree ?_)
  show wpAny _ _ (callAny (.type "set") _) _ _ _
  refine wpAny_pure ⟨Code.quiet_builtin _ (by decide +kernel), codeAny_builtin F.entry_type_call ?_⟩
  rw [Around.under_plain (weight_type_call_type "set" [.ref a] []) rfl]
  have h1 := F.called_set.notType
  have h2 := F.called_set.canCreate
  have hct := F.typeCall_set_1 (.ref a)
  repeat (any_goals (first | assumption | wp_step))
  refine codeAny_mono (code_set_new_1 (.ref a) (E := E) (Q₁ := fun obj s₁ => ∃ led : Bool, obj = .ref s.heap.objs.size ∧ s₁ = { s with heap := s.heap.push { cls := .type "set", dict := none, data := .set #[] 0 (.fresh 0 0 led) } }) fun led => ⟨led, rfl, rfl⟩) fun r s₁ hr => ?_
  cases r with
  | error e => exact hr
  | ok fl =>
    cases fl with
    | ret obj =>
      obtain ⟨led, rfl, rfl⟩ := hr
      have hS : (s.heap.push { cls := .type "set", dict := none, data := .set #[] 0 (.fresh 0 0 led) }).get? s.heap.objs.size = some { cls := .type "set", dict := none, data := .set #[] 0 (.fresh 0 0 led) } := Heap.get?_push_size _ rfl
      have hT : Shared.TypeIs { s with heap := s.heap.push { cls := .type "set", dict := none, data := .set #[] 0 (.fresh 0 0 led) } } (.ref s.heap.objs.size) "set" := ⟨_, hS, rfl⟩
      have hli := F.called_set.init.lookup
      have hbi := F.called_set.init.bind (.ref s.heap.objs.size)
      repeat (any_goals (first | assumption | wp_step))
      refine codeAny_mono (codeAny_call_builtin (R := wants (fun r s₂ => r = .none ∧ ∃ h' gs tk, s₂ = { s with heap := h', toks := tk, gens := gs } ∧ (AllBare s.gens → AllBare gs) ∧
          h'.SetOf (intKind prog w) s.heap.objs.size (fun k' => (firstMet val n).any (· == k')) (firstMet val n).length ∧
          (∀ b o, b ≤ K → s.heap.get? b = some o → h'.get? b = some o)) E) F.called_set.init.plain F.entry_set_init (check_set_init_1 hT ?_)) fun r₂ s₂ hr₂ => ?_
      · have st1 := W.frame 0 s (s.heap.push { cls := .type "set", dict := none, data := .set #[] 0 (.fresh 0 0 led) }) s.toks hst (Nat.le_refl _) fun b _ o e => Heap.get?_push_of_some _ e
        have hT2 := htyp 0 _ st1
        have hsls := sub_gen_set
        have hslf := sub_gen_frozenset
        have hne : (Value.type "generator" == Value.type "dict") = false := by decide
        unfold Builtin.«set.__init__» noKeywords Builtin.Frozenset.updateFrom
        generalize hPI : pyIter = PI
        wp_walk
        subst hPI
        have W4 : WalksS prog w A.in1.in1.in1.in1 a fp wr (GenOnlyQ g) n Fv St := W
        have W3 := W4.of_in1
        have W2 := W3.of_in1
        refine W2.self 0 _ _ _ st1 ?_
        refine wpAny_bind (wpAny_runValue ?_)
        have hSf : s.heap.objs.size ∉ fp := fun q => absurd (hfp _ q) (Nat.lt_irrefl _)
        refine PyProof.Rows.codeAny_set_update_loopS W3 s.heap.objs.size hSf val hval hb (n - 0) 0 _ rfl (Nat.zero_le _) st1 ?hS0 ?hR
        case hS0 => exact PyProof.Rows.SetOf_congr ((PyProof.Rows.setObjOf_fresh (knd := intKind prog w) led).setOf hS (by unfold scanBound; omega)) (fun _ => rfl) rfl
        case hR =>
          intro s' hm hS'
          obtain ⟨h', g', d', tk', os'⟩ := s'
          have ed : d' = s.drawn := hm.drawn
          have eo : os' = s.os := hm.os
          subst ed; subst eo
          have hgb : AllBare s.gens → AllBare g' := fun x => x.moved hm.gens
          show wpAny _ _ _ _ _ _
          refine wpAny_pure ?_
          show wpAny _ _ (ret Value.none) _ _ _
          refine wpAny_pure ⟨rfl, h', g', tk', rfl, hgb, hS', fun b o hb e => ?_⟩
          refine hm.heap b o (fun q => ?_) (Heap.get?_push_of_some _ e)
          rcases List.mem_cons.mp q with rfl | q
          · exact absurd (Heap.lt_size e) (Nat.lt_irrefl _)
          · exact absurd (Nat.lt_of_lt_of_le (hwr b q) hb) (Nat.lt_irrefl _)
      · cases r₂ with
        | error e => exact hr₂
        | ok fl₂ =>
          cases fl₂ with
          | ret r =>
            obtain ⟨rfl, h', gs, tk, rfl, hgb, hS', hk'⟩ := hr₂
            repeat (any_goals (first | assumption | wp_step))
            exact h _ _ _ _ hgb hS' hKs (by cases q : s.heap.get? s.heap.objs.size with | none => rfl | some o => exact absurd (Heap.lt_size q) (Nat.lt_irrefl _)) hk'
          | _ => exact hr₂.elim
    | _ => exact hr.elim

theorem call_sum_gen {a K : Addr} {n : Nat} {Fv : Nat → Value → Prop} {val : Nat → Int} {Q : Value → Shared → Prop}
    (X : Gen prog w A K a n Fv s) (hval : ∀ i v, Fv i v → ∃ t, v = .int (val i) t)
    (h : ∀ (h' : Heap) (gs : Array GenState) (tk : Nat) (t : Tok), (AllBare s.gens → AllBare gs) → (∀ b o, b ≤ K → s.heap.get? b = some o → h'.get? b = some o) → Q (.int (preSum val n) t) { s with heap := h', toks := tk, gens := gs }) :
    wpAny (model prog w) A (call (.builtin "sum") [.ref a]) Q E s := by
  obtain ⟨fp, wr, g, St, W, hst, _, _, hfp, hwr⟩ := X
  have W := W.in4_1
  refine call_sum_walkAnyS (W.self 0 _ _ _ hst ⟨a, _, _, _, _, _, _, val, rfl, W, hst, hfp, hval, fun s' t' hm => ?_⟩)
  obtain ⟨h', g', d', tk', os'⟩ := s'
  have ed : d' = s.drawn := hm.drawn
  have eo : os' = s.os := hm.os
  subst ed; subst eo
  exact h h' g' tk' t' (fun x => x.moved hm.gens) fun b o hb e => hm.heap b o (fun q => absurd (Nat.lt_of_lt_of_le (hwr b q) hb) (Nat.lt_irrefl _)) e

section
variable {h₀ : Heap} {L : Addr} {m : Str → Option Value} {news : List (Addr × Obj)}
theorem led_keep {h' : Heap} {K : Addr} (F : Fr h₀ L s.heap m) (N : News h₀ L s.heap news) (hN : ∀ q ∈ news, q.1 ≤ K) (hLK : L ≤ K) (hk : ∀ b o, b ≤ K → s.heap.get? b = some o → h'.get? b = some o) : Fr h₀ L h' m ∧ News h₀ L h' news :=
  ⟨⟨F.ns.at' fun o e => hk L o hLK e, fun b o e => hk b o (Nat.le_trans (Nat.le_of_lt (Heap.lt_size e)) (Nat.le_trans F.above hLK)) (F.keep b o e), F.above⟩, fun q hq => ⟨hk _ _ (hN q hq) (N q hq).1, (N q hq).2⟩⟩

theorem sum_led {a K : Addr} {n : Nat} {Fv : Nat → Value → Prop} {val : Nat → Int} {Q : Value → Shared → Prop} (F : Fr h₀ L s.heap m) (N : News h₀ L s.heap news) (hN : ∀ q ∈ news, q.1 ≤ K) (hLK : L ≤ K)
    (X : Gen prog w A K a n Fv s) (hval : ∀ i v, Fv i v → ∃ t, v = .int (val i) t)
    (h : ∀ (h' : Heap) (gs : Array GenState) (tk : Nat) (t : Tok), (AllBare s.gens → AllBare gs) → Fr h₀ L h' m → News h₀ L h' news → Q (.int (preSum val n) t) { s with heap := h', toks := tk, gens := gs }) :
    wpAny (model prog w) A (call (.builtin "sum") [.ref a]) Q E s :=
  call_sum_gen X hval fun h' gs tk t hb hk => let ⟨F', N'⟩ := led_keep F N hN hLK hk; h h' gs tk t hb F' N'

theorem set_led {a K : Addr} {n : Nat} {Fv : Nat → Value → Prop} {val : Nat → Int} {Q : Value → Shared → Prop} (F : Fr h₀ L s.heap m) (N : News h₀ L s.heap news) (hN : ∀ q ∈ news, q.1 ≤ K) (hLK : L ≤ K) (hKs : K < s.heap.objs.size) (hh : A.handled = none)
    (X : Gen prog w A K a n Fv s) (hval : ∀ i v, Fv i v → ∃ t, v = .int (val i) t) (hb : n + 1 < scanBound)
    (h : ∀ (S : Addr) (o : Obj) (h' : Heap) (gs : Array GenState) (tk : Nat), (AllBare s.gens → AllBare gs) → Fr h₀ L h' m → News h₀ L h' ((S, o) :: news) → (∀ q ∈ news, q.1 ≠ S) →
      o.SetObjOf (intKind prog w) (fun k' => (firstMet val n).any (· == k')) (firstMet val n).length → Q (.ref S) { s with heap := h', toks := tk, gens := gs }) :
    wpAny (model prog w) A (call (.type "set") [.ref a]) Q E s := by
  refine call_set_gen hh X hval hb hKs fun S h' gs tk hgb hS hKS hSn hk => ?_
  obtain ⟨F', N'⟩ := led_keep F N hN hLK hk
  obtain ⟨o, ho, hso⟩ := hS.objOf
  refine h S o h' gs tk hgb F' (fun q hq => ?_) (fun q hq e => ?_) hso
  · rcases List.mem_cons.mp hq with rfl | hq
    · refine ⟨ho, Nat.ne_of_gt (Nat.lt_of_le_of_lt hLK hKS), ?_⟩
      cases hq : h₀.get? S with
      | none => rfl
      | some o' => have := F.keep _ _ hq; rw [hSn] at this; cases this
    · exact N' q hq
  · exact absurd (hN q hq) (by rw [e]; exact Nat.not_le_of_lt hKS)
end
end
end Mine
end

-- part JM
section
open PySem PySem.W PySem.Calls PyProof.Rows
namespace Mine
set_option maxRecDepth 100000
set_option maxHeartbeats 4000000
set_option linter.unusedVariables false

theorem fill9 (w : World) (h : Heap) : (hd.heap_39 w.params).In h → PySem.Challenge.rw_jb0038_01.row.prog = PySem.Challenge.rw_jb0038_01.row.prog := by
  k_fill
  exact fun _ => rfl

noncomputable def expN (k : Nat) : Nat := expT.getD k 0

noncomputable def seqOf (o : Obj) : Array Value := match o.data with
  | .seq vs _ => vs
  | _ => #[]
noncomputable def isSeq (o : Obj) : Bool := match o.data with
  | .seq _ _ => true
  | _ => false
theorem isSeq_eq {o : Obj} (h : isSeq o = true) : ∃ n, o.data = .seq (seqOf o) n := by
  unfold isSeq at h
  unfold seqOf
  cases e : o.data <;> rw [e] at h <;> first | exact ⟨_, rfl⟩ | cases h
noncomputable def objAt (K : Frag) (a : Addr) : Obj := (K.lookup a).getD default
noncomputable def itemsAt (K : Frag) (a : Addr) : Array Value := seqOf (objAt K a)
noncomputable def isListIn (K : Frag) (a : Addr) : Bool := (K.lookup a).isSome && (objAt K a).cls == .type "list" && isSeq (objAt K a)
theorem isListIn_at {K : Frag} {a : Addr} {h : Heap} (X : K.In h) (e : isListIn K a = true) : h.IsList a (itemsAt K a) := by
  unfold isListIn at e
  simp only [Bool.and_eq_true] at e
  obtain ⟨⟨e1, e2⟩, e3⟩ := e
  obtain ⟨o, ho⟩ := Option.isSome_iff_exists.mp e1
  have eo : objAt K a = o := by unfold objAt; rw [ho]; rfl
  obtain ⟨n, hn⟩ := isSeq_eq e3
  exact ⟨objAt K a, by rw [eo]; exact X _ _ ho, beq_iff_eq.mp e2, n, hn⟩
theorem log_list (w : World) : isListIn (hd.heap_39 w.params) 154 = true := by kernel_rfl
theorem exp_list (w : World) : isListIn (hd.heap_39 w.params) 151 = true := by kernel_rfl
noncomputable def isIntOf (n : Int) : Value → Bool
  | .int i _ => i == n
  | _ => false
noncomputable def cellIs (n : Int) (o : Option Value) : Bool := (o.map (isIntOf n)).getD false
theorem cellIs_at {n : Int} {o : Option Value} (h : cellIs n o = true) : ∃ t, o = some (.int n t) := by
  cases o with
  | none => exact Bool.noConfusion (h : false = true)
  | some v => cases v <;> first | exact Bool.noConfusion (h : false = true) | exact ⟨_, by rw [beq_iff_eq.mp (show (_ == n) = true from h)]⟩
theorem log_ok (w : World) : ((List.range 256).all fun k => cellIs (logN k : Int) (itemsAt (hd.heap_39 w.params) 154)[k]?) = true := by kernel_rfl
theorem exp_ok (w : World) : ((List.range 255).all fun k => cellIs (expN k : Int) (itemsAt (hd.heap_39 w.params) 151)[k]?) = true := by kernel_rfl
theorem log_at (w : World) {k : Nat} (hk : k < 256) : ∃ t, (itemsAt (hd.heap_39 w.params) 154)[k]? = some (.int (logN k : Nat) t) :=
  cellIs_at (List.all_eq_true.mp (log_ok w) k (List.mem_range.mpr hk))
theorem exp_at (w : World) {k : Nat} (hk : k < 255) : ∃ t, (itemsAt (hd.heap_39 w.params) 151)[k]? = some (.int (expN k : Nat) t) :=
  cellIs_at (List.all_eq_true.mp (exp_ok w) k (List.mem_range.mpr hk))
theorem log_name (w : World) : nsIn (hd.heap_39 w.params) mainGlobals (Str.ofString "LOG_TABLE") = some (some (.ref 154)) := by kernel_rfl
theorem exp_name (w : World) : nsIn (hd.heap_39 w.params) mainGlobals (Str.ofString "EXP_TABLE") = some (some (.ref 151)) := by kernel_rfl
theorem len_name (w : World) : nsIn (hd.heap_39 w.params) mainGlobals (Str.ofString "len") = some none := by kernel_rfl

section
variable {w : World} {p : Program} {loose : List Str} {mean : ExcName → Option Value} {mg mb : Str → Option Value} {A : Around} {s : Shared} {Q E : Value → Shared → Prop} {cenv : Env}

/-- a table's cell -/
theorem el_table {a : Addr} {k : Nat} {v : Value} {tk : Tok} {value slice : Expr} (X : (hd.heap_39 w.params).In s.heap) (hl : isListIn (hd.heap_39 w.params) a = true) (hk : k < 256) (hv : (itemsAt (hd.heap_39 w.params) a)[k]? = some v) (h : Q v s)
    (hs : subscripted slice false (.ref a) (.int (k : Nat) tk) = operate [.ref a, .int (k : Nat) tk] (getItem (.ref a) (.int (k : Nat) tk))) (ht : ∀ r, letTemporaryGo value (.ref a) r = pure ()) :
    wpAny (model PySem.Challenge.rw_jb0038_01.row.prog w) A (subscriptTail value slice (.ref a) (.int (k : Nat) tk)) Q E s := by
  have L0 := isListIn_at X hl
  refine subscriptTail_builtin L0.typeIs slot_list_getitem.lookup (wpAny_getItem_list L0 (Int.natCast_nonneg k) (int_hi (Nat.le_trans (Nat.le_of_lt hk) (by decide))) (by simpa using hv) h) hs ht

theorem el_attr {nm name : Str} {i : Int} {x : Addr} {dd : Option Addr} {v0 v1 : Value} {n : Nat} {p1 p2 : Pos} (hn : name = Str.ofString "x" ∧ i = 0 ∨ name = Str.ofString "data" ∧ i = 1)
    (hh : A.handled = none) (hdp : A.depth + 2 < recursionLimit) (hu : A.units + 17 < cLine) (X : (hd.heap_39 w.params).In s.heap) (T : Top p loose mean mg mb s.heap)
    (hnm : ∀ Q E, Q (.ref x) s → wpAny (model PySem.Challenge.rw_jb0038_01.row.prog w) A (eval (.Name nm p1) cenv) Q E s)
    (hx : s.heap.get? x = some (shareObj dd v0 v1 n)) (hv : handedIn (if i = 0 then v0 else v1) = true)
    (hret : ∀ s', Keeps s s' → Q (if i = 0 then v0 else v1) s') :
    wpAny (model PySem.Challenge.rw_jb0038_01.row.prog w) A (eval (.Attribute (.Name nm p1) name p2) cenv) Q E s := by
  rw [arm_eval_Attribute]
  refine wpAny_bind ?_
  show wpAny _ _ (eval (.Name nm p1) cenv) _ _ _
  refine hnm _ _ ?_
  refine wpAny_bind (wpAny_standAt (wpAny_bind (wpAny_holding ?_)))
  refine attr_free hn hh hdp hu X T hx hv fun s' hk => ?_
  refine wpAny_bind ?_
  show wpAny _ _ (pure ()) _ _ _
  exact wpAny_pure (wpAny_pure (hret s' hk))
end
end Mine
end

-- part JO
section
open PySem PySem.W PySem.Calls PyProof.Rows
namespace Mine
set_option maxRecDepth 100000
set_option maxHeartbeats 4000000
set_option linter.unusedVariables false

theorem keeps_refl (s : Shared) : Keeps s s := ⟨s.heap, s.toks, rfl, fun _ _ e => e⟩
theorem keeps_trans {s s' s'' : Shared} (h : Keeps s s') (h' : Keeps s' s'') : Keeps s s'' := by
  obtain ⟨h1, t1, rfl, k1⟩ := h
  obtain ⟨h2, t2, rfl, k2⟩ := h'
  exact ⟨h2, t2, rfl, fun b o e => k2 b o (k1 b o e)⟩
theorem keeps_tok {s : Shared} {n : Nat} : Keeps s { s with toks := n } := ⟨s.heap, n, rfl, fun _ _ e => e⟩
theorem keeps_heap {s s' : Shared} (h : Keeps s s') {b : Addr} {o : Obj} (e : s.heap.get? b = some o) : s'.heap.get? b = some o := by
  obtain ⟨h1, t1, rfl, k1⟩ := h
  exact k1 b o e

theorem lt_of_xor {a b : Nat} (ha : a < 256) (hb : b < 256) : a ^^^ b < 256 := Nat.xor_lt_two_pow (n := 8) ha hb
theorem logN_lt (v : Nat) : logN v < 255 := Nat.mod_lt _ (by decide)

section
variable {w : World} {p : Program} {loose : List Str} {mean : ExcName → Option Value} {mg mb : Str → Option Value} {A : Around} {s : Shared} {Q E : Value → Shared → Prop} {cenv : Env}

/-- `LOG_TABLE[a.x ^ R]` -/
theorem el_log {nm : Str} {R : Expr} {k y : Nat} {x : Addr} {dd : Option Addr} {t0 : Tok} {v1 : Value} {n : Nat} {p1 p2 p3 p4 p5 : Pos}
    (hh : A.handled = none) (hdp : A.depth + 2 < recursionLimit) (hu : A.units + 17 < cLine) (X : (hd.heap_39 w.params).In s.heap) (T : Top p loose mean mg mb s.heap)
    (hk : cenv.scope.kind = .function) (hg : cenv.globals = mainGlobals) (hl : cenv.kindOf (Str.ofString "LOG_TABLE") = some .globalImplicit)
    (hnm : ∀ s' Q E, Keeps s s' → Q (.ref x) s' → wpAny (model PySem.Challenge.rw_jb0038_01.row.prog w) A (eval (.Name nm p1) cenv) Q E s')
    (hx : s.heap.get? x = some (shareObj dd (.int (k : Nat) t0) v1 n)) (hk8 : k < 256) (hy8 : y < 256)
    (hR : ∀ s' Q E, Keeps s s' → (∀ t s'', Keeps s s'' → Q (.int (y : Nat) t) s'') → wpAny (model PySem.Challenge.rw_jb0038_01.row.prog w) A (eval R cenv) Q E s')
    (hret : ∀ t s', Keeps s s' → Q (.int (logN (k ^^^ y) : Nat) t) s') :
    wpAny (model PySem.Challenge.rw_jb0038_01.row.prog w) A (eval (.Subscript (.Name (Str.ofString "LOG_TABLE") p4) (.BinOp (.Attribute (.Name nm p1) (Str.ofString "x") p2) .BitXor R p3) p5) cenv) Q E s := by
  refine Subscript_ ?_
  refine el_global (hd := by decide) X T hk hg hl (log_name w) ?_
  refine wpAny_BinOp ?_
  refine el_attr (i := 0) (.inl ⟨rfl, rfl⟩) hh hdp hu X T (fun Q E h => hnm _ Q E (keeps_refl s) h) hx rfl fun s₁ k₁ => ?_
  refine hR _ _ _ k₁ fun t s₂ k₂ => ?_
  show wpAny _ _ (binaryOp .BitXor (.int (k : Nat) t0) (.int (y : Nat) t)) _ _ _
  refine xorN ?_
  obtain ⟨tl, hlog⟩ := log_at w (lt_of_xor hk8 hy8)
  have k₃ := keeps_trans k₂ (keeps_tok (n := s₂.toks + 1))
  exact el_table (hs := by with_unfolding_all rfl) (ht := by intro _; with_unfolding_all rfl) (X.keeps fun _ _ e => keeps_heap k₃ e) (log_list w) (lt_of_xor hk8 hy8) hlog (hret _ _ k₃)

/-- `len(a.data)` -/
theorem el_len {nm : Str} {x : Addr} {dd : Option Addr} {v0 : Value} {b : Array UInt8} {t1 : Tok} {n : Nat} {p1 p2 p3 p4 : Pos}
    (hh : A.handled = none) (hdp : A.depth + 2 < recursionLimit) (hu : A.units + 17 < cLine) (X : (hd.heap_39 w.params).In s.heap) (T : Top p loose mean mg mb s.heap)
    (hk : cenv.scope.kind = .function) (hg : cenv.globals = mainGlobals) (hb : cenv.builtins = builtinsNs) (hl : cenv.kindOf (Str.ofString "len") = some .globalImplicit)
    (hnm : ∀ Q E, Q (.ref x) s → wpAny (model PySem.Challenge.rw_jb0038_01.row.prog w) A (eval (.Name nm p1) cenv) Q E s)
    (hx : s.heap.get? x = some (shareObj dd v0 (.bytes b t1) n)) (hbz : b.size ≤ 16)
    (hret : ∀ t s', Keeps s s' → Q (.int (b.size : Nat) t) s') :
    wpAny (model PySem.Challenge.rw_jb0038_01.row.prog w) A (eval (.Call (.Name (Str.ofString "len") p3) [.Attribute (.Name nm p1) (Str.ofString "data") p2] [] p4) cenv) Q E s := by
  refine Call_ ?_
  refine Name_function_global hk hl (loadGlobal_builtin (by rw [hg]; exact T.g) (mg_none_of X T.g (len_name w)) (by rw [hb]; exact T.b) (v := .builtin "len") ((T.builtins _ (by decide)).trans (by boot_by_name)) ?_)
  refine callWith_method1 (first := []) ?_
  refine args_cons ?_
  refine el_attr (i := 1) (.inr ⟨rfl, rfl⟩) hh hdp hu X T hnm hx rfl fun s₁ k₁ => ?_
  refine args_nil ?_
  show wpAny _ _ (PySem.call (.builtin "len") [.bytes b t1]) _ _ _
  exact len_bytes (Nat.le_trans hbz (by decide +kernel)) (hret _ _ (keeps_trans k₁ keeps_tok))

theorem el_int {i : Int} {k pos} (h : ∀ t s', Keeps s s' → Q (.int i t) s') : wpAny (model PySem.Challenge.rw_jb0038_01.row.prog w) A (eval (.Constant (.int i) k pos) cenv) Q E s :=
  wpAny_Constant_int (h _ _ keeps_tok)

noncomputable def byteStep (l v i : Nat) : Nat := i ^^^ (if v ≠ 0 then expN ((logN v + l) % 255) else 0)

/-- one octet of the next sum -/
theorem el_byte {nv ni nl : Str} {v i l : Nat} {p0 p1 p2 p3 p4 p5 p6 p7 p8 p9 p10 p11 p12 p13 p14 p15 : Pos} {k1 k2 k3 : Nat} {tv ti tl : Tok}
    (X : (hd.heap_39 w.params).In s.heap) (T : Top p loose mean mg mb s.heap)
    (hk : cenv.scope.kind = .function) (hg : cenv.globals = mainGlobals) (hl : cenv.kindOf (Str.ofString "LOG_TABLE") = some .globalImplicit) (he : cenv.kindOf (Str.ofString "EXP_TABLE") = some .globalImplicit)
    (hv : ∀ s' p Q E, Keeps s s' → Q (.int (v : Nat) tv) s' → wpAny (model PySem.Challenge.rw_jb0038_01.row.prog w) A (eval (.Name nv p) cenv) Q E s')
    (hi : ∀ s' p Q E, Keeps s s' → Q (.int (i : Nat) ti) s' → wpAny (model PySem.Challenge.rw_jb0038_01.row.prog w) A (eval (.Name ni p) cenv) Q E s')
    (hlb : ∀ s' p Q E, Keeps s s' → Q (.int (l : Nat) tl) s' → wpAny (model PySem.Challenge.rw_jb0038_01.row.prog w) A (eval (.Name nl p) cenv) Q E s')
    (hv8 : v < 256) (hret : ∀ t s', Keeps s s' → Q (.int (byteStep l v i : Nat) t) s') :
    wpAny (model PySem.Challenge.rw_jb0038_01.row.prog w) A (eval (.BinOp (.Name ni p1) .BitXor (.IfExp (.Compare (.Name nv p2) [.NotEq] [.Constant (.int 0) k1 p3] p4)
      (.Subscript (.Name (Str.ofString "EXP_TABLE") p5) (.BinOp (.BinOp (.Subscript (.Name (Str.ofString "LOG_TABLE") p6) (.Name nv p7) p8) .Add (.Name nl p9) p10) .Mod (.Constant (.int 255) k2 p11) p12) p13)
      (.Constant (.int 0) k3 p14) p15) p0) cenv) Q E s := by
  refine wpAny_BinOp ?_
  refine hi _ _ _ _ (keeps_refl s) ?_
  refine IfExp_ ?_
  refine wpAny_isTrue_Compare1 ?_
  refine hv _ _ _ _ (keeps_refl s) ?_
  refine el_int fun t1 s₁ k₁ => ?_
  refine P.ne_int ?_
  refine wpAny_truthy_bool ?_
  by_cases h0 : v = 0
  · have e0 : ((v : Int) != 0) = false := by simp [h0]
    rw [e0]
    refine el_int fun t2 s₂ k₂ => ?_
    refine xorN (y := 0) ?_
    have e1 : byteStep l v i = i ^^^ 0 := by simp [byteStep, h0]
    rw [← e1]
    exact hret _ _ (keeps_trans k₁ (keeps_trans k₂ keeps_tok))
  · have e0 : ((v : Int) != 0) = true := by simp [h0]
    rw [e0]
    show wpAny _ _ (eval (.Subscript _ _ _) cenv) _ _ _
    have X1 := X.keeps fun _ _ e => keeps_heap k₁ e
    have T1 := T.keeps fun _ _ e => keeps_heap k₁ e
    refine Subscript_ ?_
    refine el_global (hd := by decide) X1 T1 hk hg he (exp_name w) ?_
    refine wpAny_BinOp ?_
    refine wpAny_BinOp ?_
    refine Subscript_ ?_
    refine el_global (hd := by decide) X1 T1 hk hg hl (log_name w) ?_
    refine hv _ _ _ _ k₁ ?_
    obtain ⟨t3, hlog⟩ := log_at w hv8
    refine el_table (hs := by with_unfolding_all rfl) (ht := by intro _; with_unfolding_all rfl) X1 (log_list w) hv8 hlog ?_
    refine hlb _ _ _ _ k₁ ?_
    refine PyProof.Rows.add_int ?_
    refine el_int fun t4 s₂ k₂ => ?_
    have ea : ((logN v : Nat) : Int) + (l : Int) = ((logN v + l : Nat) : Int) := (Int.natCast_add _ _).symm
    rw [ea]
    refine modN (k := 255) rfl (by decide) ?_
    have hm : (logN v + l) % 255 < 255 := Nat.mod_lt _ (by decide)
    obtain ⟨t5, hexp⟩ := exp_at w hm
    have k₃ := keeps_trans (keeps_trans k₁ keeps_tok) (keeps_trans k₂ (keeps_tok (n := s₂.toks + 1)))
    refine el_table (hs := by with_unfolding_all rfl) (ht := by intro _; with_unfolding_all rfl) (X.keeps fun _ _ e => keeps_heap k₃ e) (exp_list w) (Nat.lt_succ_of_lt hm) hexp ?_
    refine xorN ?_
    have e1 : byteStep l v i = i ^^^ expN ((logN v + l) % 255) := by simp [byteStep, h0]
    rw [← e1]
    exact hret _ _ (keeps_trans k₃ keeps_tok)
end
end Mine
end

-- part JP
section
open PySem PySem.W PySem.Calls PyProof.Rows PyProof.V PySem.Spec
namespace Mine
set_option maxRecDepth 100000
set_option maxHeartbeats 4000000
set_option linter.unusedVariables false

section
variable {M : Model} {A : Around} {E : Value → Shared → Prop} {s' : Shared} {base g g₂ h : Heap} {outer : List Env} {L e t : Addr} {m : Str → Option Value} {env : Env} {Q : Unit → Shared → Prop} {news : List (Addr × Obj)}
/-- a fresh exception leaves a frame, with cells or without -/
theorem leave_raiseX {cls : Value} {vs : List Value} (K : Below A base outer g) (hx : Heap.MadeExcOf h s'.heap e cls vs) (F : Fr g L h m) (N : News g L h news)
    (hQ : ∀ h' t, RaisedK base outer e cls t vs news h' → g.UpToSlots h' → Q () { s' with heap := h' }) (hf : env.frame = some L) (hk : env.scope.kind = .function) :
    wpAny M (A.deeper env) (leaving env (.ref e)) Q E s' := by
  have K' := pushX K F hf hk
  have hin : ∀ env' ∈ (env :: outer), ∀ b, env'.frame = some b → b ∈ (env :: outer).filterMap (·.frame) := fun env' he b hb => List.mem_filterMap.mpr ⟨env', he, hb⟩
  have st : base.StaysIn (hideAll h ((env :: outer).filterMap (·.frame))) := fun b o q => hideAll_get _ (K'.stays b o q) fun hm => by
    rw [(K'.frames.mem hm).1] at q; cases q
  have hl : ∀ q ∈ news, (hideAll h ((env :: outer).filterMap (·.frame))).get? q.1 = some q.2 ∧ base.get? q.1 = none := fun q hq => by
    refine ⟨hideAll_get _ (N q hq).1 fun hm => ?_, fresh_of_stays K.stays (N q hq).2.2⟩
    obtain ⟨env', he, hf'⟩ := List.mem_filterMap.mp hm
    rcases List.mem_cons.mp he with rfl | he
    · exact (N q hq).2.1 (Option.some.inj (hf'.symm.trans hf))
    · obtain ⟨o, ho, _⟩ := (K.frames.mem (List.mem_filterMap.mpr ⟨env', he, hf'⟩)).2
      rw [(N q hq).2.2] at ho; cases ho
  exact wpAny_leaves_madeW K'.stack hf (fun b o q => of_hideAll _ q) (funFrames_hide K'.frames hin) hx fun h' t x1 x2 x3 x4 =>
    hQ h' t ⟨⟨_, st, hl, x1, x3⟩, x2⟩ (((Heap.UpToSlots.of_keeps F.keep).trans (Heap.UpToSlots.of_keeps hx.keeps)).trans x4)
end

section
variable {prog : Program} {w : World} {A₀ : Around} {E : Value → Shared → Prop} {s' : Shared} {h₀ h : Heap} {outer : List Env} {L a e t : Addr} {m : Str → Option Value} {name : Str} {scope : Scope} {cd : Value} {cl : List (Str × Addr)}
  {vs : List Value} {n : Str} {b₀ : Stmt} {suite : List Stmt} {pos np : Pos} {rest : List ExceptHandler} {Q : Flow → Shared → Prop} {news : List (Addr × Obj)} {KF : Frag} {C : Addr} {bmB : List Value} {newId : String}
  {p : Program} {loose : List Str} {mean : ExcName → Option Value} {mg mb : Str → Option Value} {x y : Str} {T' : String}

theorem caught_X (K : Below A₀ h₀ outer h₀) (F : Fr h₀ L h m) (hsm : h.UpToSlots s'.heap) (R : RaisedK h₀ (envX name scope L a cd cl :: outer) e (.ref C) t vs news s'.heap)
    (X : KF.In h₀) (T : TopRead p loose mg mb h₀) (ex : nsIn KF mainGlobals x = some (some (.ref C))) (q : excIn KF C bmB newId = true) (hbase : bmB.contains (.type "BaseException") = true)
    (k : ∀ h' news₂, Fr h₀ L h' m → News h₀ L h' news₂ → Got news₂ e t (.ref C) vs → News h₀ L h' news →
      wpAny (model prog w) ((A₀.deeper (envX name scope L a cd cl)).mark (some (.ref e))) (execs (b₀ :: suite) (envX name scope L a cd cl)) Q E { s' with heap := h' })
    (hk : scope.kind = .function) (hx : (envX name scope L a cd cl).kindOf x = some .globalImplicit) (hd : (x == ("__debug__" : Str)) = false)
    (hE : PassesOwnAt (model prog w) ((A₀.deeper (envX name scope L a cd cl)).mark (some (.ref e))) (A₀.deeper (envX name scope L a cd cl)) (envX name scope L a cd cl) E) :
    wpAny (model prog w) (A₀.deeper (envX name scope L a cd cl)) (noteFrame (.ref e) (envX name scope L a cd cl))
      (fun _ s₂ => wpAny (model prog w) (A₀.deeper (envX name scope L a cd cl)) (setFlight (.ref e) none) (fun _ s₃ =>
        wpAny (model prog w) (A₀.deeper (envX name scope L a cd cl)) (handleBy (.ref e) (envX name scope L a cd cl) (.ExceptHandler (some (.Name x np)) none (b₀ :: suite) pos :: rest)) Q E s₃) E s₂) E s' := by
  obtain ⟨⟨B, hB, hl, hfl, hnew⟩, htup⟩ := R
  have hL : B.get? L = none := by
    obtain ⟨_, ⟨L', _, hf, hn', _⟩, _⟩ := hfl.2.2.1
    obtain rfl : L = L' := Option.some.inj hf
    exact hn'
  refine wpAny_looks_onW (Around.frames_deeper K.stack) rfl hfl fun h₄ hheld₄ hsm₄ => ?_
  refine wpAny_landsW hheld₄ fun h₅ hheld hsm₅' => ?_
  have hsm₅ := hsm₄.trans hsm₅'
  have hheld' := flyingW_base hB hheld
  have F₅ := F.of_stays hheld'.1 (hsm.trans hsm₅)
  obtain ⟨ob, hob, hobc⟩ := hheld'.there
  refine wpAny_handleBy_cons (codeAny_handlers_test (nameX_K F₅ X T ex ?_ hk hx hd)) (by intro q; cases q)
  obtain ⟨bm, N, nm, qn, bs, hdct, sn, sub, ab, col, dd, k0, k1, k2, k3, k5, mN, hC, hN, hni, TL⟩ := ((own_of_in X T ex q).keeps F₅.keep).obj
  refine wpAny_excMatches_sub_self hC hob hobc (TL.hasType hbase) (codeAny_handlers_suite ?_)
  refine lands_againW hheld fun h₆ hfl₆ hsm₆ => ?_
  have hfl₆' := flyingW_base hB hfl₆
  have F₆ := F.of_stays hfl₆'.1 ((hsm.trans hsm₅).trans hsm₆)
  obtain ⟨oe, ws, hoe, hoec, hoed, hoe0⟩ := hfl₆'.first
  obtain ⟨ot, nt, hot, hotc, hotd⟩ := (htup.of_slots hsm₅).of_slots hsm₆
  have N₆ := News.more F₆ (News.more F₆ News.nil hot (fun es n q => by rw [hotd] at q; cases q) (fresh_of_stays hB hnew)) hoe (fun es n q => by rw [hoed] at q; cases q) hfl₆'.2.1
  exact wpAny_passesOwnAt hE (k h₆ _ F₆ N₆ ⟨oe, ot, ws, nt, .head _, .tail _ (.head _), hoec, hoed, hoe0, hotc, hotd⟩ fun q hq => ⟨hfl₆.1 _ _ (hl q hq).1, (fun z => by have := (hl q hq).1; rw [z, hL] at this; cases this), (hl q hq).2⟩)
end

section
variable {prog : Program} {w : World} {A : Around} {E : Value → Shared → Prop} {s : Shared} {h₀ : Heap} {L a : Addr} {m : Str → Option Value} {name : Str} {scope : Scope} {cd : Value} {cl : List (Str × Addr)} {Q : Flow → Shared → Prop} {KF : Frag} {C : Addr} {bm : List Value} {B newId initId : String}
  {p : Program} {loose : List Str} {mg mb : Str → Option Value} {x : Str} {cpos np pos : Pos}
theorem Raise_ownX {e₀ : Expr} {rest : List Expr} (F : Fr h₀ L s.heap m) (X : KF.In h₀) (T : TopRead p loose mg mb h₀) (ex : nsIn KF mainGlobals x = some (some (.ref C))) (qe : excIn KF C bm newId = true) (FB : ExcBaseFacts B newId initId bm) (hh : A.handled = none)
    (h : wpAny (model prog w) A (spliced (backTo cpos (starEach (e₀ :: rest) (envX name scope L a cd cl)))) (fun vs s₂ => vs.length ≤ sizeLine ∧ (∀ b o, h₀.get? b = some o → s₂.heap.get? b = some o) ∧
      ∀ h' e, Heap.MadeExcOf s₂.heap h' e (.ref C) vs → E (.ref e) { s₂ with heap := h' }) E s)
    (he : starEach (e₀ :: rest) (envX name scope L a cd cl) = (false, eval e₀ (envX name scope L a cd cl)) :: starEach rest (envX name scope L a cd cl))
    (hplain : (backTo cpos (starEach rest (envX name scope L a cd cl))).any (·.1) = false)
    (hk : scope.kind = .function) (hx : (envX name scope L a cd cl).kindOf x = some .globalImplicit) (hd : (x == ("__debug__" : Str)) = false) :
    wpAny (model prog w) A (exec (.Raise (some (.Call (.Name x np) (e₀ :: rest) [] cpos)) none pos) (envX name scope L a cd cl)) Q E s := by
  obtain ⟨tl, N, nm, q, bs, hdct, sn, sub, ab, col, dd, k0, k1, k2, k3, k5, mN, hC, hN, hni, TL⟩ := (own_of_in X T ex qe).obj
  refine wpAny_Raise_call_subT (C := C) (nm := nm) (q := q) (N := N) (bs := bs) (bm := tl) (hdct := hdct) (sn := sn) (sub := sub) (ab := ab) (col := col) (dd := dd) (k0 := k0) (k1 := k1) (k2 := k2) (k3 := k3) (k5 := k5)
    FB (mN := mN) (TL.hasType FB.hasBase) hh (by rw [he]; show (false || (backTo cpos (starEach rest (envX name scope L a cd cl))).any (·.1)) = false; rw [hplain]; rfl) hni (nameX_K F X T ex ⟨rfl, ?_⟩ hk hx hd)
  rw [he] at h ⊢
  exact Calls.evalArgs_plain (wpAny_mono h (fun vs s₂ h₂ => ⟨rfl, h₂.1, h₂.2.1 _ _ hC, hN.keeps h₂.2.1, TL.keeps h₂.2.1, h₂.2.2⟩) fun _ _ y => y)
end
theorem exc_name (w : World) : nsIn (hd.heap_39 w.params) mainGlobals (Str.ofString "MnemonicError") = some (some (.ref 31)) := by kernel_rfl
theorem exc_in (w : World) : ∃ n bm, excIn (hd.heap_39 w.params) 31 bm n = true ∧ ∃ i, ExcBaseFacts "Exception" n i bm := ⟨_, _, by kernel_rfl, _, PySem.F.excBase_Exception⟩
end Mine
end

-- part JR
section
open PySem PySem.W PySem.Calls PyProof.Rows
namespace Mine
set_option maxRecDepth 100000
set_option maxHeartbeats 1000000
set_option linter.unusedVariables false

section
variable {prog : Program} {w : World} {A : Around} {E : Value → Shared → Prop} {s : Shared}
theorem choose_one {Q : Nat → Shared → Prop} (h : ∀ dr, Q 0 { s with drawn := dr }) : wpAny (model prog w) A (choose .order 1) Q E s := by
  intro Γ p hΓ
  show 1 ≠ 0 ∧ _
  refine ⟨Nat.one_ne_zero, ?_⟩
  have e : (model prog w).w.draws .order (s.drawn.get .order) % 1 = 0 := Nat.mod_one _
  rw [e]
  exact h _

theorem popPlace_one {t : SetTable} (hf : t.fits 1 = true) : t.popPlace = some 0 := by
  simp only [SetTable.fits, Bool.and_eq_true, beq_iff_eq, decide_eq_true_eq] at hf
  unfold SetTable.popPlace
  have h1 : t.place.isEmpty = false := by simp [Array.isEmpty, hf.1]
  rw [h1]
  simp only [Bool.false_eq_true, if_false]
  congr 1
  split
  · rename_i h; rw [hf.1] at h; omega
  · rfl

theorem setPop_one {a : Addr} {o : Obj} {n : Int} {S : Int → Bool} {Q : Option Value → Shared → Prop} (ho : s.heap.get? a = some o) (hso : o.SetObjOf (intKind prog w) S 1) (hS : S n = true)
    (h : ∀ t h' o' dr, Heap.SameBut a s.heap h' → h'.get? a = some o' → Q (some (.int n t)) { s with heap := h', drawn := dr }) : wpAny (model prog w) A (setPop a) Q E s := by
  obtain ⟨hex, es, ep, t, hd, hel, hmem, hn, hf⟩ := hso
  obtain ⟨es⟩ := es
  obtain ⟨e, rfl⟩ : ∃ e, es = [e] := List.length_eq_one_iff.mp (by simpa using hn)
  obtain ⟨e0, he0, hke⟩ := (hmem n).mp hS
  rw [List.mem_singleton.mp he0] at hke
  obtain ⟨hh, x⟩ := e
  obtain ⟨tx, rfl⟩ := Value.isInt_shape hke
  unfold setPop
  refine wpAny_bind (wpAny_setState_of ho hd hf ?_)
  dsimp only
  rw [popPlace_one hf]
  dsimp only
  unfold setsByText
  refine wpAny_bind (wpAny_bind (wpAny_askSetting (wpAny_pure ?_)))
  dsimp only
  split
  · refine wpAny_bind (choose_one fun dr => ?_)
    show wpAny _ _ (storeSet a (SetTable.eraseAt #[(hh, Value.int n tx)] 0) (t.popped 0) >>= fun _ => pure (some (Value.int n tx))) _ _ _
    refine wpAny_bind (wpAny_storeSet_of (s := { s with drawn := dr }) ho hd (wpAny_pure ?_) (Nat.zero_le _))
    exact h tx _ _ dr (Heap.SameBut.update ..) (Heap.get?_update_self _ ho (by rw [putSet_of _ _ hd]; rfl))
  · refine wpAny_bind (wpAny_of_eq (a := ()) ?_ (wpAny_bind (wpAny_pure ?_)))
    · obtain ⟨mask, place, dummies, finger, led, moves, plain⟩ := t
      cases led <;> rfl
    · show wpAny _ _ (storeSet a (SetTable.eraseAt #[(hh, Value.int n tx)] 0) (t.popped 0) >>= fun _ => pure (some (Value.int n tx))) _ _ _
      refine wpAny_bind (wpAny_storeSet_of ho hd (wpAny_pure ?_) (Nat.zero_le _))
      exact h tx _ _ s.drawn (Heap.SameBut.update ..) (Heap.get?_update_self _ ho (by rw [putSet_of _ _ hd]; rfl))

theorem set_pop {a : Addr} {o : Obj} {n : Int} {S : Int → Bool} {Q : Value → Shared → Prop} (ho : s.heap.get? a = some o) (hso : o.SetObjOf (intKind prog w) S 1) (hS : S n = true)
    (h : ∀ t h' o' dr, Heap.SameBut a s.heap h' → h'.get? a = some o' → Q (.int n t) { s with heap := h', drawn := dr }) : wpAny (model prog w) A (call (.builtin "set.pop") [.ref a]) Q E s := by
  have hT := (hso.setOf ho (by decide)).typeIs
  refine wpAny_call_entry F.slot_set_pop hT F.entry_set_pop ?_ (F.args_set_pop_1 _)
  unfold Builtin.«set.pop» Builtin.Frozenset.noArgs
  simp only [List.isEmpty_nil, bind_assoc]
  unfold Builtin.Frozenset.addrOf
  refine wpAny_bind (wpAny_pure ?_)
  try dsimp only
  refine wpAny_bind (setPop_one ho hso hS fun t h' o' dr h1 h2 => ?_)
  dsimp only
  exact wpAny_pure ⟨_, rfl, h t h' o' dr h1 h2⟩
end
end Mine
end

-- part JS
section
open PySem PySem.W PySem.Calls PyProof.Rows
namespace Mine
set_option maxRecDepth 100000
set_option maxHeartbeats 1000000
set_option linter.unusedVariables false

theorem bg_no_bytes : typeLookup (.type "generator") "__bytes__" = pure none := by rw [typeLookup_type, builtinLookup_eq_fast]; kernel_rfl
theorem bg_no_index : typeLookup (.type "generator") "__index__" = pure none := by rw [typeLookup_type, builtinLookup_eq_fast]; kernel_rfl
theorem bg_no_buffer : typeLookup (.type "generator") "__buffer__" = pure none := by rw [typeLookup_type, builtinLookup_eq_fast]; kernel_rfl
theorem bg_no_len : typeLookup (.type "generator") "__len__" = pure none := by rw [typeLookup_type, builtinLookup_eq_fast]; kernel_rfl
theorem bg_no_hint : typeLookup (.type "generator") "__length_hint__" = pure none := by rw [typeLookup_type, builtinLookup_eq_fast]; kernel_rfl
theorem bi_no_bytes : typeLookup (.type "int") "__bytes__" = pure none := by rw [typeLookup_type, builtinLookup_eq_fast]; kernel_rfl
theorem bi_index : ∃ r, typeLookup (.type "int") "__index__" = pure (some r) := ⟨.builtin "int.__index__", by rw [typeLookup_type, builtinLookup_eq_fast]; kernel_rfl⟩

noncomputable def bytesV (val : Nat → Nat) (i : Nat) : Array UInt8 := ((List.range i).map fun j => (val j).toUInt8).toArray
theorem bytesV_size (val : Nat → Nat) (i : Nat) : (bytesV val i).size = i := by simp [bytesV]
theorem bytesV_succ (val : Nat → Nat) (i : Nat) : bytesV val (i + 1) = (bytesV val i).push (val i).toUInt8 := by
  unfold bytesV; rw [List.range_succ, List.map_append]; simp

section
variable {prog : Program} {w : World} {A : Around} {E : Value → Shared → Prop} {s : Shared}
theorem bytes_loop {R : Result → Shared → Prop} {I : Addr} {fp wr : List Addr} {G : Array GenState → Array GenState → Prop} {n : Nat} {P : Nat → Value → Prop} {St : Nat → Shared → Prop}
    (W : WalksS prog w A.in1 I fp wr G n P St) (val : Nat → Nat) (hval : ∀ i v, P i v → ∃ t, v = .int (val i : Nat) t) (hr : ∀ i, i < n → val i < 256) (hz : n ≤ sizeLine) (S : Addr) (hSf : S ∉ fp) :
    ∀ (k i : Nat) (s : Shared), n - i = k → i ≤ n → St i s → s.heap.get? S = some { cls := .type "bytearray", data := .bytearray (bytesV val i) } →
      (∀ s' t', Moved (S :: wr) G s s' → R (.ok (.ret (.bytes (bytesV val n) t'))) s') →
      codeAny (model prog w) A (.builtin "bytes.__new__.loop" ⟨[.type "bytes", .ref I, .ref S], []⟩) R s := by
  have hSw : S ∉ wr := fun h => hSf (W.sub _ h)
  have hsub : ∀ b ∈ wr, b ∈ S :: wr := fun b hb => List.mem_cons_of_mem _ hb
  have notS : ∀ {b : Addr}, b ∉ S :: wr → S ≠ b := fun hb h => hb (by rw [h]; exact List.mem_cons_self)
  intro k
  induction k with
  | zero =>
    intro i s hk hle hst hS hR
    have hin : i = n := Nat.le_antisymm hle (Nat.le_of_sub_eq_zero hk)
    subst hin
    refine codeAny_builtin F.bm_entry_loop ?_
    rw [Around.under_plainId F.bm_plain_loop _]
    show wpAny _ A.in1 (pyNext (.ref I) >>= _) _ _ s
    refine wpAny_bind (W.done s _ _ hst fun s' hm => ?_)
    have hS' := hm.heap S _ hSw hS
    refine wpAny_bind ?_
    unfold Builtin.Bytes.payload Builtin.Bytes.payload?
    refine wpAny_bind (wpAny_bind (wpAny_load hS' ?_))
    refine wpAny_pure (wpAny_pure ?_)
    refine wpAny_bind (wpAny_mkBytes ?_ (by rw [bytesV_size]; exact hz))
    show wpAny _ _ (if (Value.type "bytes" == Value.type "bytes") = true then _ else _) _ _ _
    refine bm_if_true (by decide) ?_
    first
      | exact wpAny_pure (hR _ _ ((hm.mono hsub).then_heap (Nat.le_succ _) fun _ _ _ e => e))
      | exact wpAny_bind (wpAny_pure (wpAny_pure (hR _ _ ((hm.mono hsub).then_heap (Nat.le_succ _) fun _ _ _ e => e))))
  | succ k ih =>
    intro i s hk hle hst hS hR
    have hlt : i < n := Nat.lt_of_sub_pos (by rw [hk]; exact Nat.succ_pos k)
    refine codeAny_builtin F.bm_entry_loop ?_
    rw [Around.under_plainId F.bm_plain_loop _]
    show wpAny _ A.in1 (pyNext (.ref I) >>= _) _ _ s
    refine wpAny_bind (W.item i s _ _ hlt hst fun v s' hP hst' hm => ?_)
    obtain ⟨t, rfl⟩ := hval i v hP
    have h1 := hr i hlt
    have hS' := hm.heap S _ hSw hS
    refine wpAny_bind (wpAny_holding (wpAny_of_eq (rfl : asIndex (.int (val i : Nat) t) = pure ((val i : Nat) : Int)) ?_))
    refine wpAny_bind (wpAny_letGo ?_)
    refine bm_if_false (by simp only [Bool.or_eq_false_iff, decide_eq_false_iff_not]; exact ⟨Int.not_lt.mpr (Int.natCast_nonneg _), Int.not_lt.mpr (Int.ofNat_le.mpr (Nat.le_of_lt_succ h1))⟩) ?_
    refine wpAny_bind ?_
    show wpAny _ _ (updateBytearray S (·.push ((val i : Nat) : Int).toNat.toUInt8)) _ _ _
    unfold updateBytearray
    refine wpAny_bind (wpAny_load hS' ?_)
    show wpAny _ _ (update S (Obj.mapBytearray (·.push ((val i : Nat) : Int).toNat.toUInt8)) >>= fun _ => lookBehind S) _ _ _
    refine wpAny_bind (wpAny_update hS' ?_)
    have hS₂ : (s'.heap.update S (Obj.mapBytearray (·.push ((val i : Nat) : Int).toNat.toUInt8))).get? S = some { cls := .type "bytearray", data := .bytearray (bytesV val (i + 1)) } := by
      rw [bytesV_succ]
      exact Heap.get?_update_self (Obj.mapBytearray (·.push ((val i : Nat) : Int).toNat.toUInt8)) hS' rfl
    refine wpAny_lookBehind hS₂ ?_ ?_
    · show (if (bytesV val (i + 1)).size > sizeLine then some "bytearray:memory" else none) = none
      rw [if_neg]
      rw [bytesV_size]
      exact Nat.not_lt.mpr (Nat.le_trans hlt hz)
    · refine wpAny_pure ⟨plainId_quiet F.bm_plain_loop _, ih (i + 1) { s' with heap := s'.heap.update S (Obj.mapBytearray (·.push ((val i : Nat) : Int).toNat.toUInt8)) } ((Nat.sub_succ n i).trans (by rw [hk]; rfl)) hlt ?_ hS₂ fun s'' t'' hm'' => ?_⟩
      · exact W.frame _ s' _ s'.toks hst' (Nat.le_refl _) fun b hb o e => (Heap.get?_update_other _ _ (fun h : S = b => hSf (by rw [h]; exact hb))).trans e
      · exact hR s'' t'' (Moved.trans W.gtrans ((hm.mono hsub).then_heap (tk := s'.toks) (Nat.le_refl _) fun b o hb e => (Heap.get?_update_other _ _ (notS hb)).trans e) hm'')

theorem bytes_gen_new {a : Addr} {n gi : Nat} {Fv : Nat → Value → Prop} {val : Nat → Nat} {Q : Value → Shared → Prop} {fp wr : List Addr} {g : Nat} {St : Nat → Shared → Prop}
    (W : WalksS prog w A.in1 a fp wr (GenOnlyQ g) n Fv St) (hst : St 0 s) (hfp : ∀ b ∈ fp, b < s.heap.objs.size) (hg : s.heap.IsGen a gi) (hval : ∀ i v, Fv i v → ∃ t, v = .int (val i : Nat) t) (hr : ∀ i, i < n → val i < 256) (hz : n ≤ sizeLine)
    (hQ : ∀ s' t, Moved (s.heap.objs.size :: wr) (GenOnlyQ g) s s' → Q (.bytes (bytesV val n) t) s') :
    codeAny (model prog w) A (.call (.builtin "bytes.__new__") ⟨[.type "bytes", .ref a], []⟩) (wants Q E) s := by
  refine codeAny_of_tree ?_
  show wpAny _ A.in1 (do checkBuiltinCall "bytes.__new__" ⟨[.type "bytes", .ref a], []⟩; again (.builtin "bytes.__new__" ⟨[.type "bytes", .ref a], []⟩)) _ _ s
  refine wpAny_bind (wpAny_of_eq (F.bm_newCall _) (wpAny_pure ⟨plainId_quiet F.bm_plain _, codeAny_builtin F.bm_entry ?_⟩))
  rw [Around.under_plainId F.bm_plain _]
  obtain ⟨og, nm, qn, hog, hgc, hgd, hgs⟩ := hg
  have hT : s.TypeIs (.ref a) "generator" := ⟨og, hog, hgc⟩
  unfold Builtin.«bytes.__new__»
  refine wpAny_bind (wpAny_of_eq (a := true) rfl ?_)
  refine bm_if_false rfl ?_
  refine wpAny_bind (wpAny_of_eq F.bm_sub ?_)
  refine bm_if_false rfl ?_
  refine wpAny_bind (wpAny_of_eq (F.bm_bind _) ?_)
  refine wpAny_bind (wpAny_of_eq (a := ()) rfl ?_)
  refine wpAny_bind (wpAny_of_eq (a := ()) rfl ?_)
  refine bm_if_false rfl ?_
  refine wpAny_bind (wpAny_specialOf hT bg_no_bytes ?_)
  refine wpAny_bind (wpAny_bind ?_)
  show wpAny _ _ (load a >>= _) _ _ _
  refine wpAny_bind (wpAny_load hog ?_)
  rw [hgd]
  refine wpAny_pure (wpAny_pure ?_)
  refine bm_if_false rfl ?_
  refine wpAny_bind (wpAny_specialOf hT bg_no_index ?_)
  refine bm_if_true rfl ?_
  first
    | show wpAny _ _ (Builtin.Bytes.buffer? "bytes.__new__" (.ref a) true >>= _) _ _ _
    | (refine wpAny_bind ?_; show wpAny _ _ (Builtin.Bytes.buffer? "bytes.__new__" (.ref a) true >>= _) _ _ _)
  refine wpAny_bind ?_
  unfold Builtin.Bytes.buffer?
  refine wpAny_bind (wpAny_specialOf hT bg_no_buffer ?_)
  refine wpAny_bind (wpAny_specialOf hT bg_no_buffer ?_)
  refine wpAny_pure ?_
  refine wpAny_bind (wpAny_tryCatch (W.self 0 _ _ _ hst ?_))
  refine wpAny_bind (wpAny_holding ?_)
  unfold Builtin.Bytes.lengthHint
  refine wpAny_bind (wpAny_specialOf hT bg_no_len ?_)
  dsimp only
  refine bm_if_false (by decide +kernel) ?_
  refine bm_if_false rfl ?_
  refine wpAny_bind (wpAny_specialOf hT bg_no_hint ?_)
  dsimp only
  refine wpAny_pure ?_
  refine wpAny_bind ?_
  unfold Builtin.Bytes.newBytearray
  refine wpAny_newObj_type ?_ (Nat.zero_le _)
  have st1 := W.frame 0 s (s.heap.push { cls := .type "bytearray", data := .bytearray #[] }) s.toks hst (Nat.le_refl _) fun b _ o e => Heap.get?_push_of_some _ e
  have main := bytes_loop (prog := prog) (w := w) (A := A) (R := wants Q E) W val hval hr hz s.heap.objs.size (fun q => absurd (hfp _ q) (Nat.lt_irrefl _)) n 0 { s with heap := s.heap.push { cls := .type "bytearray", data := .bytearray #[] } } (Nat.sub_zero _) (Nat.zero_le _) st1 (Heap.get?_push_size _ rfl)
    fun s' t hm => hQ s' t (Moved.mk (fun b o hb e => hm.heap b o hb (Heap.get?_push_of_some _ e)) hm.gens hm.drawn hm.os hm.toks)
  first
    | exact wpAny_pure ⟨plainId_quiet F.bm_plain_loop _, main⟩
    | exact wpAny_pure (wpAny_pure ⟨plainId_quiet F.bm_plain_loop _, main⟩)

theorem call_bytes_gen {a K : Addr} {n gi : Nat} {Fv : Nat → Value → Prop} {val : Nat → Nat} {Q : Value → Shared → Prop}
    (X : Gen prog w A K a n Fv s) (hg : s.heap.IsGen a gi) (hKs : K < s.heap.objs.size) (hval : ∀ i v, Fv i v → ∃ t, v = .int (val i : Nat) t) (hr : ∀ i, i < n → val i < 256) (hz : n ≤ sizeLine)
    (h : ∀ (h' : Heap) (gs : Array GenState) (tk : Nat) (t : Tok), (AllBare s.gens → AllBare gs) → (∀ b o, b ≤ K → s.heap.get? b = some o → h'.get? b = some o) → Q (.bytes (bytesV val n) t) { s with heap := h', toks := tk, gens := gs }) :
    wpAny (model prog w) A (call (.type "bytes") [.ref a]) Q E s := by
  obtain ⟨fp, wr, g, St, W, hst, _, _, hfp, hwr⟩ := X
  have W4 : WalksS prog w A.in1.in1.in1.in1 a fp wr (GenOnlyQ g) n Fv St := W
  refine callType_codes (Q₁ := fun obj s₁ => s₁.TypeIs obj "bytes" ∧ Q obj s₁) F.bm_called (F.bm_typeCall _) F.entry_object_init
    (bytes_gen_new (A := A.in1) (W4.of_in1.of_in1) hst hfp hg hval hr hz fun s' t hm => ⟨PySem.W.typeIs_bytes _ _ _, ?_⟩) fun obj s₁ h₁ => ?_
  · obtain ⟨h', g', d', tk', os'⟩ := s'
    have ed : d' = s.drawn := hm.drawn
    have eo : os' = s.os := hm.os
    subst ed; subst eo
    refine h h' g' tk' t (fun x => x.moved hm.gens) fun b o hb e => hm.heap b o (fun q => ?_) e
    rcases List.mem_cons.mp q with rfl | q
    · exact absurd (Nat.lt_of_lt_of_le hKs hb) (Nat.lt_irrefl _)
    · exact absurd (Nat.lt_of_lt_of_le (hwr b q) hb) (Nat.lt_irrefl _)
  · exact ⟨h₁.1, F.args_object_init_2 obj _, object_init_meets F.bm_called.init.lookup F.bm_called.made (by decide) prog w A.in1 _ s₁ ⟨h₁.1, rfl, h₁.2⟩⟩

section
variable {h₀ : Heap} {L : Addr} {m : Str → Option Value} {news : List (Addr × Obj)}
theorem bytes_led {a K : Addr} {n gi : Nat} {Fv : Nat → Value → Prop} {val : Nat → Nat} {Q : Value → Shared → Prop} (F : Fr h₀ L s.heap m) (N : News h₀ L s.heap news) (hN : ∀ q ∈ news, q.1 ≤ K) (hLK : L ≤ K) (hKs : K < s.heap.objs.size)
    (X : Gen prog w A K a n Fv s) (hg : s.heap.IsGen a gi) (hval : ∀ i v, Fv i v → ∃ t, v = .int (val i : Nat) t) (hr : ∀ i, i < n → val i < 256) (hz : n ≤ sizeLine)
    (h : ∀ (h' : Heap) (gs : Array GenState) (tk : Nat) (t : Tok), (AllBare s.gens → AllBare gs) → Fr h₀ L h' m → News h₀ L h' news → Q (.bytes (bytesV val n) t) { s with heap := h', toks := tk, gens := gs }) :
    wpAny (model prog w) A (call (.type "bytes") [.ref a]) Q E s :=
  call_bytes_gen X hg hKs hval hr hz fun h' gs tk t hb hk => let ⟨F', N'⟩ := led_keep F N hN hLK hk; h h' gs tk t hb F' N'
end

theorem bytes_int_new {z : Nat} {tz : Tok} {Q : Value → Shared → Prop} (hz : z ≤ 4)
    (hQ : ∀ t k, Q (.bytes (Array.replicate z 0) t) { s with toks := k }) :
    codeAny (model prog w) A (.call (.builtin "bytes.__new__") ⟨[.type "bytes", .int (z : Nat) tz], []⟩) (wants Q E) s := by
  refine codeAny_of_tree ?_
  show wpAny _ A.in1 (do checkBuiltinCall "bytes.__new__" ⟨[.type "bytes", .int (z : Nat) tz], []⟩; again (.builtin "bytes.__new__" ⟨[.type "bytes", .int (z : Nat) tz], []⟩)) _ _ s
  refine wpAny_bind (wpAny_of_eq (F.bm_newCall _) (wpAny_pure ⟨plainId_quiet F.bm_plain _, codeAny_builtin F.bm_entry ?_⟩))
  rw [Around.under_plainId F.bm_plain _]
  have hT : s.TypeIs (.int (z : Nat) tz) "int" := typeIs_int _ _ _
  have ha : asStr? (.int (z : Nat) tz) = pure none := rfl
  have hi : asIndex (.int (z : Nat) tz) = pure ((z : Nat) : Int) := rfl
  generalize hv : Value.int ((z : Nat) : Int) tz = v at hT ha hi ⊢
  unfold Builtin.«bytes.__new__»
  refine wpAny_bind (wpAny_of_eq (a := true) rfl ?_)
  refine bm_if_false rfl ?_
  refine wpAny_bind (wpAny_of_eq F.bm_sub ?_)
  refine bm_if_false rfl ?_
  refine wpAny_bind (wpAny_of_eq (F.bm_bind _) ?_)
  refine wpAny_bind (wpAny_of_eq (a := ()) rfl ?_)
  refine wpAny_bind (wpAny_of_eq (a := ()) rfl ?_)
  refine bm_if_false rfl ?_
  refine wpAny_bind (wpAny_specialOf hT bi_no_bytes ?_)
  refine wpAny_bind (wpAny_bind ?_)
  clear hv
  refine wpAny_of_eq ha (wpAny_pure ?_)
  refine bm_if_false rfl ?_
  obtain ⟨ri, hri⟩ := bi_index
  first
    | refine wpAny_bind (wpAny_specialOf hT hri ?_)
    | refine wpAny_bind (wpAny_bind (wpAny_specialOf hT hri ?_))
  refine bm_if_false rfl ?_
  first
    | refine wpAny_bind (wpAny_attempt (wpAny_of_eq hi ?_))
    | refine wpAny_bind (wpAny_bind (wpAny_attempt (wpAny_of_eq hi ?_)))
  have hc := (by decide : ∀ k : Fin 5, ((k.val : Nat) : Int) = 0 ∨ ((k.val : Nat) : Int) = 1 ∨ ((k.val : Nat) : Int) = 2 ∨ ((k.val : Nat) : Int) = 3 ∨ ((k.val : Nat) : Int) = 4) ⟨z, Nat.lt_succ_of_le hz⟩
  dsimp only at hc
  have h2 : ((z : Nat) : Int).toNat = z := Int.toNat_natCast z
  generalize ((z : Nat) : Int) = n at hc h2 ⊢
  dsimp only
  subst h2
  rcases hc with rfl | rfl | rfl | rfl | rfl
  all_goals
    refine bm_if_false (by decide +kernel) ?_
    rw [if_neg (by decide), if_neg (by decide)]
    refine bm_if_false (by decide +kernel) ?_
    refine wpAny_bind (wpAny_rule ?_)
    refine wpAny_bind (wpAny_mkBytes ?_ (by rw [Array.size_replicate]; decide +kernel))
    show wpAny _ _ (if (Value.type "bytes" == Value.type "bytes") = true then _ else _) _ _ _
    refine bm_if_true (by decide) ?_
    first
      | (refine wpAny_pure ?_; exact hQ _ _)
      | (refine wpAny_bind (wpAny_pure ?_); exact hQ _ _)

theorem call_bytes_int {z : Nat} {tz : Tok} {Q : Value → Shared → Prop} (hz : z ≤ 4) (hQ : ∀ t k, Q (.bytes (Array.replicate z 0) t) { s with toks := k }) :
    wpAny (model prog w) A (call (.type "bytes") [.int (z : Nat) tz]) Q E s := by
  refine callType_codes (Q₁ := fun obj s₁ => s₁.TypeIs obj "bytes" ∧ Q obj s₁) F.bm_called (F.bm_typeCall _) F.entry_object_init
    (bytes_int_new (A := A.in1) hz fun t k => ⟨PySem.W.typeIs_bytes _ _ _, hQ t k⟩) fun obj s₁ h₁ => ?_
  exact ⟨h₁.1, F.args_object_init_2 obj _, object_init_meets F.bm_called.init.lookup F.bm_called.made (by decide) prog w A.in1 _ s₁ ⟨h₁.1, rfl, h₁.2⟩⟩
end
end Mine
end

-- part JT
section
open PySem PySem.W PySem.Calls PyProof.Rows
namespace Mine
set_option maxRecDepth 100000
set_option maxHeartbeats 1000000
set_option linter.unusedVariables false

section
variable {prog : Program} {w : World} {A : Around} {E : Value → Shared → Prop} {s : Shared} {b : Array UInt8} {t : Tok}
theorem nextOf_item {it : Addr} {i : Nat} {c : UInt8} {Q : Value → Shared → Prop} (hit : KBw.IsBytesIter s.heap it b t i) (hx : b[i]? = some c)
    (hQ : ∀ h' tk, KBw.IsBytesIter h' it b t (i + 1) → Heap.SameBut it s.heap h' → Q (.int (c.toNat : Int) tk) { s with heap := h', toks := s.toks + 1 }) : wpAny (model prog w) A (Builtin.SmallTypes.nextOf (.ref it)) Q E s := by
  obtain ⟨o, ho, hc, hd⟩ := id hit
  unfold Builtin.SmallTypes.nextOf
  refine wpAny_bind (wpAny_callSpecial?_slot (name := PySem.Str.ofString "__next__") (KBw.iter_typeIs hit) KBw.slot_next
    (wpAny_call_entry KBw.slot_next (KBw.iter_typeIs hit) KBw.entry_next ?_ (KBw.args_next _)))
  show wpAny _ _ (field (.ref it) 0 >>= _) _ _ s
  refine wpAny_bind (wpAny_field ho hd (x := .bytes b t) rfl ?_)
  show wpAny _ _ (if (Value.bytes b t == Value.none) = true then _ else _) _ _ s
  rw [if_neg (show ¬ ((Value.bytes b t == Value.none) = true) from Bool.false_ne_true)]
  show wpAny _ _ (field (.ref it) 1 >>= _) _ _ s
  refine wpAny_bind (wpAny_field ho hd (x := .int i 0) rfl ?_)
  refine wpAny_bind (wpAny_of_eq (a := b) rfl ?_)
  simp only [Int.toNat_natCast, hx]
  refine wpAny_bind (wpAny_setField ho hd (by simp) (wpAny_bind (wpAny_mkInt (wpAny_pure ⟨_, rfl, wpAny_pure (hQ _ _ ?_ (Heap.SameBut.update ..))⟩))))
  exact ⟨_, Heap.get?_update_self _ ho (Obj.isFreed_of_fields (Obj.data_mapFields hd _)), (Obj.cls_mapFields ..).trans hc, by
    rw [Obj.data_mapFields hd]; simp [rawInt]⟩

theorem nextOf_end {it : Addr} {i : Nat} {Q : Value → Shared → Prop} (hh : A.handled = none) (hit : KBw.IsBytesIter s.heap it b t i) (hx : b[i]? = none)
    (hE : ∀ h' e, Heap.ExtBut it s.heap h' → (∃ o, h'.get? e = some o ∧ o.cls = .type "StopIteration") → E (.ref e) { s with heap := h' }) : wpAny (model prog w) A (Builtin.SmallTypes.nextOf (.ref it)) Q E s := by
  obtain ⟨o, ho, hc, hd⟩ := id hit
  unfold Builtin.SmallTypes.nextOf
  refine wpAny_bind (wpAny_callSpecial?_slot (name := PySem.Str.ofString "__next__") (KBw.iter_typeIs hit) KBw.slot_next
    (wpAny_call_entry KBw.slot_next (KBw.iter_typeIs hit) KBw.entry_next ?_ (KBw.args_next _)))
  show wpAny _ _ (field (.ref it) 0 >>= _) _ _ s
  refine wpAny_bind (wpAny_field ho hd (x := .bytes b t) rfl ?_)
  show wpAny _ _ (if (Value.bytes b t == Value.none) = true then _ else _) _ _ s
  rw [if_neg (show ¬ ((Value.bytes b t == Value.none) = true) from Bool.false_ne_true)]
  show wpAny _ _ (field (.ref it) 1 >>= _) _ _ s
  refine wpAny_bind (wpAny_field ho hd (x := .int i 0) rfl ?_)
  refine wpAny_bind (wpAny_of_eq (a := b) rfl ?_)
  simp only [Int.toNat_natCast, hx]
  refine wpAny_bind (wpAny_rule (wpAny_bind (wpAny_setField ho hd (by simp) ?_)))
  show wpAny _ _ (newExc (.type "StopIteration") [] >>= _) _ _ _
  refine wpAny_bind ?_
  simp only [newExc, newTuple]
  refine wpAny_bind (wpAny_newObj_type ?_ (by size_fits))
  refine wpAny_bind (m := firstArgMember _ _) (wpAny_of_eq (a := Value.none) (by first | rfl | (simp only [firstArgMember]; rfl)) ?_)
  refine wpAny_newObj_type ?_ (by size_fits)
  simp only [raiseNew]
  refine wpAny_bind (wpAny_handled ?_)
  rw [show A.in1.handled = none from hh]
  refine wpAny_bind (wpAny_pure (wpAny_throw ?_))
  exact hE _ _ (((Heap.SameBut.update ..).extBut.push _).push _) ⟨_, Heap.get?_push_size _ rfl, rfl⟩

structure ZB (z TI TO i1 i2 : Addr) : Prop where
  TIz : TI ≠ z
  TOz : TO ≠ z
  i1z : i1 ≠ z
  i2z : i2 ≠ z
  TITO : TI ≠ TO
  TIi1 : TI ≠ i1
  TIi2 : TI ≠ i2
  TOi1 : TO ≠ i1
  TOi2 : TO ≠ i2
  i12 : i1 ≠ i2

theorem bit_ext {h h' : Heap} {it a : Addr} {b : Array UInt8} {t : Tok} {i : Nat} (x : KBw.IsBytesIter h it b t i) (e : Heap.ExtBut a h h') (n : it ≠ a) : KBw.IsBytesIter h' it b t i :=
  let ⟨o, ho, r⟩ := x; ⟨o, e _ _ n ho, r⟩

section
variable {x y : Array UInt8} {tx ty : Tok}
theorem zipB_item {z TI TO i1 i2 : Addr} {k : Nat} {a b : Value} {c d : UInt8} {Q : Value → Shared → Prop} (D : ZB z TI TO i1 i2)
    (hz : IsZip s.heap z TI TO .none) (hTI : IsPair s.heap TI (.ref i1) (.ref i2)) (hTO : IsPair s.heap TO a b)
    (h1 : KBw.IsBytesIter s.heap i1 x tx k) (h2 : KBw.IsBytesIter s.heap i2 y ty k) (hx : x[k]? = some c) (hy : y[k]? = some d)
    (hQ : ∀ h' t1 t2 tk, IsZip h' z TI TO (rawInt s.heap.objs.size) → IsPair h' TO (.int (c.toNat : Int) t1) (.int (d.toNat : Int) t2) → KBw.IsBytesIter h' i1 x tx (k + 1) → KBw.IsBytesIter h' i2 y ty (k + 1) →
      IsPair h' s.heap.objs.size (.int (c.toNat : Int) t1) (.int (d.toNat : Int) t2) →
      (∀ c o, c ≠ z → c ≠ TO → c ≠ i1 → c ≠ i2 → s.heap.get? c = some o → h'.get? c = some o) → Q (.ref s.heap.objs.size) { s with heap := h', toks := tk }) :
    wpAny (model prog w) A (Builtin.«zip.__next__» ⟨[.ref z], []⟩) (fun fin s' => ∃ v, fin = .done (.ret v) ∧ Q v s') E s := by
  show wpAny _ _ (field (.ref z) 2 >>= _) _ _ _
  refine wpAny_bind (wpAny_field hz rfl (x := .bool false) rfl ?_)
  show wpAny _ _ (field (.ref z) 3 >>= _) _ _ _
  refine wpAny_bind (wpAny_field hz rfl (x := .ref TI) rfl ?_)
  refine wpAny_bind (wpAny_seqItems hTI rfl ?_)
  show wpAny _ _ (Builtin.SmallTypes.ownedTupleIsFree (.ref z) >>= _) _ _ _
  refine wpAny_bind ?_
  unfold Builtin.SmallTypes.ownedTupleIsFree
  refine wpAny_bind (wpAny_field hz rfl (x := .none) rfl (wpAny_pure ?_))
  simp only [if_true]
  refine wpAny_bind (wpAny_rule ?_)
  refine wpAny_bind (wpAny_field hz rfl (x := .ref TO) rfl ?_)
  refine wpAny_bind (wpAny_setField_rec hz (by simp) fun h₁ hz₁ hs₁ => ?_)
  replace hz₁ : IsZip h₁ z TI TO .ellipsis := hz₁
  refine wpAny_bind ?_
  simp only [List.zipIdx_cons, List.zipIdx_nil, List.forIn_cons, List.forIn_nil]
  refine wpAny_bind (wpAny_bind (wpAny_onRaise ?_))
  show wpAny _ _ (Builtin.SmallTypes.nextOf (.ref i1) >>= _) _ _ _
  refine wpAny_bind (nextOf_item (s := { s with heap := h₁ }) (bit_ext h1 hs₁.extBut D.i1z) hx fun h₂ t1 h1₂ hs₂ => wpAny_pure ?_)
  replace hs₂ : Heap.SameBut i1 h₁ h₂ := hs₂
  have hTO₂ : IsPair h₂ TO a b := hs₂.extBut _ _ D.TOi1 (hs₁.extBut _ _ D.TOz hTO)
  refine wpAny_bind (wpAny_seqItems hTO₂ rfl ?_)
  refine wpAny_bind (wpAny_updateSeq_pair hTO₂ fun h₃ hTO₃ hs₃ => ?_)
  replace hTO₃ : IsPair h₃ TO (.int (c.toNat : Int) t1) b := hTO₃
  replace hs₃ : Heap.SameBut TO h₂ h₃ := hs₃
  refine wpAny_bind (wpAny_letGo (wpAny_pure ?_))
  refine wpAny_bind (wpAny_bind (wpAny_onRaise ?_))
  show wpAny _ _ (Builtin.SmallTypes.nextOf (.ref i2) >>= _) _ _ _
  have h2₃ : KBw.IsBytesIter h₃ i2 y ty k := bit_ext (bit_ext (bit_ext h2 hs₁.extBut D.i2z) hs₂.extBut D.i12.symm) hs₃.extBut D.TOi2.symm
  refine wpAny_bind (nextOf_item (s := { s with heap := h₃, toks := s.toks + 1 }) h2₃ hy fun h₄ t2 h2₄ hs₄ => wpAny_pure ?_)
  replace hs₄ : Heap.SameBut i2 h₃ h₄ := hs₄
  have hTO₄ : IsPair h₄ TO (.int (c.toNat : Int) t1) b := hs₄.extBut _ _ D.TOi2 hTO₃
  refine wpAny_bind (wpAny_seqItems hTO₄ rfl ?_)
  refine wpAny_bind (wpAny_updateSeq_pair hTO₄ fun h₅ hTO₅ hs₅ => ?_)
  replace hTO₅ : IsPair h₅ TO (.int (c.toNat : Int) t1) (.int (d.toNat : Int) t2) := hTO₅
  replace hs₅ : Heap.SameBut TO h₄ h₅ := hs₅
  refine wpAny_bind (wpAny_letGo (wpAny_pure (wpAny_pure ?_)))
  refine wpAny_bind (wpAny_seqItems hTO₅ rfl ?_)
  refine wpAny_bind (wpAny_newTuple ?_)
  have hsz : h₅.objs.size = s.heap.objs.size := by rw [hs₅.1, hs₄.1, hs₃.1, hs₂.1, hs₁.1]
  have hz₅ : IsZip h₅ z TI TO .ellipsis := hs₅.extBut _ _ D.TOz.symm (hs₄.extBut _ _ D.i2z.symm (hs₃.extBut _ _ D.TOz.symm (hs₂.extBut _ _ D.i1z.symm hz₁)))
  have hk₅ : ∀ c o, c ≠ z → c ≠ TO → c ≠ i1 → c ≠ i2 → s.heap.get? c = some o → h₅.get? c = some o := fun c o c1 c2 c3 c4 e =>
    hs₅.extBut _ _ c2 (hs₄.extBut _ _ c4 (hs₃.extBut _ _ c2 (hs₂.extBut _ _ c3 (hs₁.extBut _ _ c1 e))))
  have h1₅ : KBw.IsBytesIter h₅ i1 x tx (k + 1) := bit_ext (bit_ext (bit_ext h1₂ hs₃.extBut D.TOi1.symm) hs₄.extBut D.i12) hs₅.extBut D.TOi1.symm
  have h2₅ : KBw.IsBytesIter h₅ i2 y ty (k + 1) := bit_ext h2₄ hs₅.extBut D.TOi2.symm
  have hzlt : z < h₅.objs.size := Heap.lt_size hz₅
  show wpAny _ _ (Builtin.SmallTypes.ownedTupleHandOut (.ref z) (.ref h₅.objs.size) >>= _) _ _ _
  refine wpAny_bind ?_
  unfold Builtin.SmallTypes.ownedTupleHandOut
  have hz₆ : IsZip (h₅.push { cls := .type "tuple", data := .seq #[.int (c.toNat : Int) t1, .int (d.toNat : Int) t2] }) z TI TO .ellipsis := Heap.get?_push_of_some _ hz₅
  refine wpAny_bind (wpAny_setField_rec hz₆ (by simp) fun h₇ hz₇ hs₇ => ?_)
  replace hz₇ : IsZip h₇ z TI TO (rawInt h₅.objs.size) := hz₇
  refine wpAny_setField_rec hz₇ (by simp) fun h₈ hz₈ hs₈ => ?_
  replace hz₈ : IsZip h₈ z TI TO (rawInt h₅.objs.size) := hz₈
  have up : ∀ c o, c ≠ z → h₅.get? c = some o → h₈.get? c = some o := fun c o c1 e => hs₈.extBut _ _ c1 (hs₇.extBut _ _ c1 (Heap.get?_push_of_some _ e))
  have hT₈ : IsPair h₈ h₅.objs.size (.int (c.toNat : Int) t1) (.int (d.toNat : Int) t2) := hs₈.extBut _ _ (Nat.ne_of_gt hzlt) (hs₇.extBut _ _ (Nat.ne_of_gt hzlt) (Heap.get?_push_size _ rfl))
  rw [hsz] at hz₈ hT₈
  refine wpAny_pure ⟨_, rfl, ?_⟩
  show Q (.ref h₅.objs.size) _
  rw [hsz]
  exact hQ h₈ t1 t2 _ hz₈ (up _ _ D.TOz hTO₅) (bit_ext h1₅ (fun c o n e => up c o n e) D.i1z) (bit_ext h2₅ (fun c o n e => up c o n e) D.i2z) hT₈ fun c o c1 c2 c3 c4 e => up c o c1 (hk₅ c o c1 c2 c3 c4 e)

theorem zipB_end {z TI TO i1 i2 : Addr} {k : Nat} {a b : Value} {Q : Fin → Shared → Prop} (hh : A.handled = none) (D : ZB z TI TO i1 i2)
    (hz : IsZip s.heap z TI TO .none) (hTI : IsPair s.heap TI (.ref i1) (.ref i2)) (hTO : IsPair s.heap TO a b) (h1 : KBw.IsBytesIter s.heap i1 x tx k) (hx : x[k]? = none)
    (hE : ∀ h' e, (∀ c o, c ≠ z → c ≠ TO → c ≠ i1 → c ≠ i2 → s.heap.get? c = some o → h'.get? c = some o) → (∃ o, h'.get? e = some o ∧ o.cls = .type "StopIteration") → E (.ref e) { s with heap := h' }) :
    wpAny (model prog w) A (Builtin.«zip.__next__» ⟨[.ref z], []⟩) Q E s := by
  show wpAny _ _ (field (.ref z) 2 >>= _) _ _ _
  refine wpAny_bind (wpAny_field hz rfl (x := .bool false) rfl ?_)
  show wpAny _ _ (field (.ref z) 3 >>= _) _ _ _
  refine wpAny_bind (wpAny_field hz rfl (x := .ref TI) rfl ?_)
  refine wpAny_bind (wpAny_seqItems hTI rfl ?_)
  show wpAny _ _ (Builtin.SmallTypes.ownedTupleIsFree (.ref z) >>= _) _ _ _
  refine wpAny_bind ?_
  unfold Builtin.SmallTypes.ownedTupleIsFree
  refine wpAny_bind (wpAny_field hz rfl (x := .none) rfl (wpAny_pure ?_))
  simp only [if_true]
  refine wpAny_bind (wpAny_rule ?_)
  refine wpAny_bind (wpAny_field hz rfl (x := .ref TO) rfl ?_)
  refine wpAny_bind (wpAny_setField_rec hz (by simp) fun h₁ hz₁ hs₁ => ?_)
  replace hz₁ : IsZip h₁ z TI TO .ellipsis := hz₁
  refine wpAny_bind ?_
  simp only [List.zipIdx_cons, List.zipIdx_nil, List.forIn_cons, List.forIn_nil]
  refine wpAny_bind (wpAny_bind (wpAny_onRaise ?_))
  show wpAny _ _ (Builtin.SmallTypes.nextOf (.ref i1) >>= _) _ _ _
  refine wpAny_bind (nextOf_end (s := { s with heap := h₁ }) hh (bit_ext h1 hs₁.extBut D.i1z) hx fun h₂ e hs₂ he => ?_)
  replace hs₂ : Heap.ExtBut i1 h₁ h₂ := hs₂
  obtain ⟨oe, hoe, hce⟩ := he
  have hz₂ : IsZip h₂ z TI TO .ellipsis := hs₂ _ _ D.i1z.symm hz₁
  have hez : e ≠ z := fun x => by subst x; rw [hz₂] at hoe; cases hoe; simp at hce
  refine wpAny_setField_rec hz₂ (by simp) fun h₃ _ hs₃ => hE h₃ e (fun c o c1 _ c3 _ x => hs₃.extBut _ _ c1 (hs₂ _ _ c3 (hs₁.extBut _ _ c1 x))) ⟨oe, hs₃.extBut _ _ hez hoe, hce⟩

theorem walksB (hh : A.handled = none) (z TI TO i1 i2 : Addr) (D : ZB z TI TO i1 i2) (x y : Array UInt8) (tx ty : Tok) (n : Nat) (hxn : x.size = n) (hyn : y.size = n) :
    WalksU prog w A z [z, TI, TO, i1, i2] [z, TO, i1, i2] n
      (fun i vals => ∃ c d t1 t2, x[i]? = some c ∧ y[i]? = some d ∧ vals = #[.int (c.toNat : Int) t1, .int (d.toNat : Int) t2])
      (fun i h => IsZip h z TI TO .none ∧ IsPair h TI (.ref i1) (.ref i2) ∧ (∃ a b, IsPair h TO a b) ∧ KBw.IsBytesIter h i1 x tx i ∧ KBw.IsBytesIter h i2 y ty i)
      (fun i T h => IsZip h z TI TO (rawInt T) ∧ IsPair h TI (.ref i1) (.ref i2) ∧ (∃ a b, IsPair h TO a b) ∧ KBw.IsBytesIter h i1 x tx (i + 1) ∧ KBw.IsBytesIter h i2 y ty (i + 1) ∧ T ≠ z ∧ T ≠ TO ∧ T ≠ i1 ∧ T ≠ i2) where
  sub := fun c hc => by simp at hc ⊢; rcases hc with rfl | rfl | rfl | rfl <;> simp
  frame := fun i h h' hst hk => by
    obtain ⟨hz, hTI, ⟨a, b, hTO⟩, ⟨o1, e1, r1⟩, ⟨o2, e2, r2⟩⟩ := hst
    exact ⟨hk z (by simp) _ hz, hk TI (by simp) _ hTI, ⟨a, b, hk TO (by simp) _ hTO⟩, ⟨o1, hk i1 (by simp) _ e1, r1⟩, ⟨o2, hk i2 (by simp) _ e2, r2⟩⟩
  item := fun i s Q E hi hst hQ => by
    obtain ⟨hz, hTI, ⟨a, b, hTO⟩, h1, h2⟩ := hst
    have hix : i < x.size := by omega
    have hiy : i < y.size := by omega
    have hT : s.TypeIs (.ref z) "zip" := ⟨_, hz, rfl⟩
    unfold pyNext
    refine wpAny_bind (wpAny_attempt (wpAny_callSpecial?_slot (name := Str.ofString "__next__") hT F.slot_zip_next
      (wpAny_call_entry F.slot_zip_next hT F.entry_zip_next
        (zipB_item D hz hTI hTO h1 h2 (Array.getElem?_eq_getElem hix) (Array.getElem?_eq_getElem hiy) fun h' t1 t2 tk a1 a2 a3 a4 a5 hk => wpAny_pure ?_) (F.args_zip_next_1 _))))
    have lt : ∀ {c o}, s.heap.get? c = some o → s.heap.objs.size ≠ c := fun e => Nat.ne_of_gt (Heap.lt_size e)
    exact hQ s.heap.objs.size #[.int (x[i].toNat : Int) t1, .int (y[i].toNat : Int) t2] h' tk ⟨_, _, t1, t2, Array.getElem?_eq_getElem hix, Array.getElem?_eq_getElem hiy, rfl⟩ ⟨_, a5, rfl, _, rfl⟩
      ⟨a1, hk _ _ D.TIz D.TITO D.TIi1 D.TIi2 hTI, ⟨_, _, a2⟩, a3, a4, lt hz, lt hTO, (by obtain ⟨_, e, _⟩ := h1; exact lt e), (by obtain ⟨_, e, _⟩ := h2; exact lt e)⟩
      fun c o hc e => hk c o (fun x => hc (by simp [x])) (fun x => hc (by simp [x])) (fun x => hc (by simp [x])) (fun x => hc (by simp [x])) e
  go := fun elts k pos i T s Q E hm hQ => by
    obtain ⟨hz, hTI, ⟨a, b, hTO⟩, h1, h2, _⟩ := hm
    refine wpAny_letOwnedTupleGo_zip hz fun h' hz' hs' => hQ h' ⟨hz', hs'.extBut _ _ D.TIz hTI, ⟨a, b, hs'.extBut _ _ D.TOz hTO⟩, bit_ext h1 hs'.extBut D.i1z, bit_ext h2 hs'.extBut D.i2z⟩ fun c o hc e => hs'.extBut _ _ (fun x => hc (by simp [x])) e
  apart := fun i T h hm hT => by
    obtain ⟨_, _, _, _, _, t1, t2, t3, t4⟩ := hm
    simp at hT
    rcases hT with rfl | rfl | rfl | rfl
    · exact t1 rfl
    · exact t2 rfl
    · exact t3 rfl
    · exact t4 rfl
  done := fun s Q E hst hQ => by
    obtain ⟨hz, hTI, ⟨a, b, hTO⟩, h1, h2⟩ := hst
    have hT : s.TypeIs (.ref z) "zip" := ⟨_, hz, rfl⟩
    unfold pyNext
    refine wpAny_bind (wpAny_attempt (wpAny_callSpecial?_slot (name := Str.ofString "__next__") hT F.slot_zip_next
      (wpAny_call_entry F.slot_zip_next hT F.entry_zip_next (zipB_end hh D hz hTI hTO h1 (Array.getElem?_eq_none (by omega)) fun h' e hk he => ?_) (F.args_zip_next_1 _))))
    obtain ⟨o, ho, hc⟩ := he
    refine wpAny_bind (wpAny_isInstance (T := "StopIteration") (b := true) ⟨o, ho, hc⟩ isSubtype_stop ?_)
    exact wpAny_pure (hQ _ s.toks fun c o hc e => hk c o (fun x => hc (by simp [x])) (fun x => hc (by simp [x])) (fun x => hc (by simp [x])) (fun x => hc (by simp [x])) e)
  self := fun i s Q E hst hQ => wpAny_pyIter_zip hst.1 hQ
end
end
end Mine
end

-- part JU
section
open PySem PySem.W PySem.Calls PyProof.Rows
namespace Mine
set_option maxRecDepth 100000
set_option maxHeartbeats 1000000
set_option linter.unusedVariables false

noncomputable abbrev zb1 (h : Heap) (x : Array UInt8) (tx : Tok) : Heap := h.push { cls := .type "bytes_iterator", data := .fields #[.bytes x tx, .int 0 0] }
noncomputable abbrev zb2 (h : Heap) (x : Array UInt8) (tx : Tok) (y : Array UInt8) (ty : Tok) : Heap := (zb1 h x tx).push { cls := .type "bytes_iterator", data := .fields #[.bytes y ty, .int 0 0] }
noncomputable abbrev zb3 (h : Heap) (x : Array UInt8) (tx : Tok) (y : Array UInt8) (ty : Tok) : Heap := (zb2 h x tx y ty).push { cls := .type "tuple", data := .seq #[.ref h.objs.size, .ref (zb1 h x tx).objs.size] }
noncomputable abbrev zb4 (h : Heap) (x : Array UInt8) (tx : Tok) (y : Array UInt8) (ty : Tok) : Heap := (zb3 h x tx y ty).push { cls := .type "tuple", data := .seq #[.none, .none] }
noncomputable abbrev zb5 (h : Heap) (x : Array UInt8) (tx : Tok) (y : Array UInt8) (ty : Tok) : Heap := (zb4 h x tx y ty).push { cls := .type "zip", data := .fields #[.none, .bool false, .bool false, .ref (zb2 h x tx y ty).objs.size, .ref (zb3 h x tx y ty).objs.size] }

theorem meets_zb (x : Array UInt8) (tx : Tok) (y : Array UInt8) (ty : Tok) :
    Meets (Builtin.«zip.__new__» ⟨[.type "zip", .bytes x tx, .bytes y ty], []⟩) (fun _ R s =>
      R (.ok (.ret (.ref (zb4 s.heap x tx y ty).objs.size))) { s with heap := zb5 s.heap x tx y ty }) :=
  .of_wp fun prog w A R s h => by
    obtain ⟨hp, g, d, tk, os⟩ := s
    have hsub := sub_zip
    wp_walk using KBw.pyIter_bytes, KBw.pyIter_bytes
    exact ⟨_, rfl, h⟩

section
variable {prog : Program} {w : World} {A : Around} {E : Value → Shared → Prop} {s : Shared}
theorem call_zb {x : Array UInt8} {tx : Tok} {y : Array UInt8} {ty : Tok} {Q : Value → Shared → Prop}
    (h : ∀ h', IsZip h' (s.heap.objs.size + 4) (s.heap.objs.size + 2) (s.heap.objs.size + 3) .none → IsPair h' (s.heap.objs.size + 2) (.ref s.heap.objs.size) (.ref (s.heap.objs.size + 1)) →
      IsPair h' (s.heap.objs.size + 3) .none .none → KBw.IsBytesIter h' s.heap.objs.size x tx 0 → KBw.IsBytesIter h' (s.heap.objs.size + 1) y ty 0 → h'.objs.size = s.heap.objs.size + 5 →
      (∀ c o, s.heap.get? c = some o → h'.get? c = some o) → Q (.ref (s.heap.objs.size + 4)) { s with heap := h' }) :
    wpAny (model prog w) A (call (.type "zip") [.bytes x tx, .bytes y ty]) Q E s := by
  refine callType_new F.called_zip (by decide) (F.typeCall_zip_2 _ _) (F.newCall_zip_2 _ _) (fun obj => F.args_object_init_3 obj _ _) F.entry_zip_new (meets_zb x tx y ty) ?_
  have z1 : (zb1 s.heap x tx).objs.size = s.heap.objs.size + 1 := Heap.size_push ..
  have z2 : (zb2 s.heap x tx y ty).objs.size = s.heap.objs.size + 2 := by rw [Heap.size_push, z1]
  have z3 : (zb3 s.heap x tx y ty).objs.size = s.heap.objs.size + 3 := by rw [Heap.size_push, z2]
  have z4 : (zb4 s.heap x tx y ty).objs.size = s.heap.objs.size + 4 := by rw [Heap.size_push, z3]
  have z5 : (zb5 s.heap x tx y ty).objs.size = s.heap.objs.size + 5 := by rw [Heap.size_push, z4]
  have g5 : (zb5 s.heap x tx y ty).get? (zb4 s.heap x tx y ty).objs.size = some _ := Heap.get?_push_size _ rfl
  have g4 : (zb5 s.heap x tx y ty).get? (zb3 s.heap x tx y ty).objs.size = some _ := Heap.get?_push_of_some _ (Heap.get?_push_size _ rfl)
  have g3 : (zb5 s.heap x tx y ty).get? (zb2 s.heap x tx y ty).objs.size = some _ := Heap.get?_push_of_some _ (Heap.get?_push_of_some _ (Heap.get?_push_size _ rfl))
  have g2 : (zb5 s.heap x tx y ty).get? (zb1 s.heap x tx).objs.size = some _ := Heap.get?_push_of_some _ (Heap.get?_push_of_some _ (Heap.get?_push_of_some _ (Heap.get?_push_size _ rfl)))
  have g1 : (zb5 s.heap x tx y ty).get? s.heap.objs.size = some _ := Heap.get?_push_of_some _ (Heap.get?_push_of_some _ (Heap.get?_push_of_some _ (Heap.get?_push_of_some _ (Heap.get?_push_size _ rfl))))
  show _ ∧ _
  rw [z2, z3, z4] at g5
  rw [z1, z2] at g3
  rw [z3] at g4
  rw [z1] at g2
  rw [z4]
  exact ⟨⟨_, g5, rfl⟩, h _ g5 g3 g4 ⟨_, g1, rfl, rfl⟩ ⟨_, g2, rfl, rfl⟩ z5 fun c o x =>
    Heap.get?_push_of_some _ (Heap.get?_push_of_some _ (Heap.get?_push_of_some _ (Heap.get?_push_of_some _ (Heap.get?_push_of_some _ x))))⟩
theorem add_ne (n a b : Nat) (h : a ≠ b) : n + a ≠ n + b := fun e => h (Nat.add_left_cancel e)
theorem zb_apart (n : Nat) : ZB (n + 4) (n + 2) (n + 3) n (n + 1) := by
  exact ⟨add_ne n 2 4 (by decide), add_ne n 3 4 (by decide), add_ne n 0 4 (by decide), add_ne n 1 4 (by decide), add_ne n 2 3 (by decide), add_ne n 2 0 (by decide), add_ne n 2 1 (by decide), add_ne n 3 0 (by decide), add_ne n 3 1 (by decide), add_ne n 0 1 (by decide)⟩
end
end Mine
end

-- part JV
section
open PySem PySem.W PySem.Calls PyProof.Rows
namespace Mine
set_option maxRecDepth 100000
set_option maxHeartbeats 1000000
set_option linter.unusedVariables false

section
variable {prog : Program} {w : World} {p : Program} {loose : List Str} {mean : ExcName → Option Value} {mg mb : Str → Option Value} {A : Around} {E : Value → Shared → Prop} {s : Shared} {h₀ : Heap} {L a c P : Addr} {m : Str → Option Value} {cn : Str} {cs : Scope} {ccd : Value} {cl : List (Str × Addr)} {news : List (Addr × Obj)} {g : Obj → List (Addr × Obj)} {ps : Array Value}
/-- a generator expression over a zip of two bytes of one length -/
theorem gen_zb {elt iter : Expr} {xa xb : Str} {pa pb pt : Pos} {kt : Nat} {scope : Scope} {clo : List (Str × Addr)} {pos : Pos} {Q : Value → Shared → Prop}
    (F : Fr h₀ L s.heap m) (N : News h₀ L s.heap news) (T : Top p loose mean mg mb h₀) (C : CodeHd h₀ c P) (hcd : ccd = .ref c) (U : UpdF P (tabObj ps) news g) (ht : TriplesOk ps.toList)
    (hh : A.handled = none) (hclos : closureFor scope (envX cn cs L a ccd cl) = pure clo) (hroom : A.depth < recursionLimit)
    (h : wpAny (model prog w) A (eval iter (envX cn cs L a ccd cl)) (fun xv s₁ => ∃ s₀ x tx y ty n, ∃ (Fv : Nat → Value → Prop), Keeps s s₀ ∧ x.size = n ∧ y.size = n ∧ xv = .ref (s₀.heap.objs.size + 4) ∧
        (∃ h', s₁ = { s₀ with heap := h' } ∧ IsZip h' (s₀.heap.objs.size + 4) (s₀.heap.objs.size + 2) (s₀.heap.objs.size + 3) .none ∧ IsPair h' (s₀.heap.objs.size + 2) (.ref s₀.heap.objs.size) (.ref (s₀.heap.objs.size + 1)) ∧
          IsPair h' (s₀.heap.objs.size + 3) .none .none ∧ KBw.IsBytesIter h' s₀.heap.objs.size x tx 0 ∧ KBw.IsBytesIter h' (s₀.heap.objs.size + 1) y ty 0 ∧ h'.objs.size = s₀.heap.objs.size + 5 ∧ (∀ c o, s₀.heap.get? c = some o → h'.get? c = some o)) ∧
        (∀ (cv : Value) (D : Addr) (A' : Around) E' i c d t1 t2 (t : Shared) m₂, A'.handled = none → A'.depth ≤ A.depth + 1 → A'.units ≤ A.units + 8 → x[i]? = some c → y[i]? = some d → t.heap.Ns D m₂ → m₂ xa = some (.int (c.toNat : Int) t1) → m₂ xb = some (.int (d.toNat : Int) t2) →
          (∀ b o, b ≠ P → s.heap.get? b = some o → t.heap.get? b = some o) →
          wpAny (model prog w) A' (eval elt (genEnv scope clo D cv builtinsNs (envX cn cs L a ccd cl))) (fun y s₃ => Fv i y ∧ Keeps t s₃) E' t) ∧
        (∀ K a' gi h₅ tk gs ps', L ≤ K → gs.bare = true → TriplesOk ps'.toList → Fr h₀ L h₅ m → News h₀ L h₅ (g (tabObj ps')) → (∀ q ∈ g (tabObj ps'), q.1 ≤ K) → K < h₅.objs.size →
          Gen prog w A K a' n Fv { s with heap := h₅, toks := tk, gens := s.gens.push gs } → h₅.IsGen a' gi →
          Q (.ref a') { s with heap := h₅, toks := tk, gens := s.gens.push gs })) E s)
    (hs : ∀ x, genFold iter (envX cn cs L a ccd cl) x = pure x)
    (hab : xa ≠ xb) (hco : scope.isCoroutine = false) (hcell : ∀ y ∈ scope.names, y.2 ≠ .cell) (h0 : scope.names.lookup (".0" : Str) = some NameKind.local)
    (hxa : scope.names.lookup xa = some .local) (hxb : scope.names.lookup xb = some .local) (hkind : scope.kind = .function) :
    wpAny (model prog w) A (eval (.GeneratorExp elt [⟨.Tuple [.Name xa pa, .Name xb pb] kt pt, iter, [], 0⟩] scope pos) (envX cn cs L a ccd cl)) Q E s := by
  obtain ⟨own, rest, rfl, hgr, u1, u2⟩ := U.split
  have hm := N (P, tabObj ps) (List.mem_append_right _ (.head _))
  refine wpAny_GeneratorExp_walksQTD hh hco hclos hcell h0 hxa hxb hab hkind hroom (wpAny_mono h (fun xv s₁ h₁' => ?_) fun _ _ e => e) hs
  obtain ⟨s₀, x, tx, y, ty, n, Fv, ⟨H₀, k₀, rfl, K₀⟩, hxn, hyn, rfl, ⟨H₂, rfl, hz, hTI, hTO, hb1, hb2, hsz2, K₂⟩, hq, hQ⟩ := h₁'
  dsimp only at *
  refine wpAny_pyIter_zip hz ?_
  have F₂ : Fr h₀ L H₂ m := ⟨F.ns.keeps fun b o e => K₂ b o (K₀ b o e), fun b o e => K₂ b o (K₀ b o (F.keep b o e)), F.above⟩
  have hP₂ : H₂.get? P = some (tabObj ps) := K₂ _ _ (K₀ _ _ hm.1)
  have hl₂ : H₂.NoLimit := T.nolimit.keeps F₂.keep
  have lL : L < H₀.objs.size := by obtain ⟨o, _, _, e, _⟩ := F.ns; exact Heap.lt_size (K₀ _ _ e)
  have lN : ∀ q ∈ own ++ (P, tabObj ps) :: rest, q.1 < H₀.objs.size := fun q hq => Heap.lt_size (K₀ _ _ (N q hq).1)
  have hPl : P < H₀.objs.size := lN (P, tabObj ps) (List.mem_append_right _ (.head _))
  refine ⟨hl₂, genCode (s := { s with heap := H₂, toks := k₀ }) hcd (C.keeps F₂.keep) hP₂ ht fun cv h₃ tk₃ ps' ht' hP' hx₃ hsz => ?_⟩
  dsimp only at *
  have hcP : cStatics ≠ P := fun e => by
    obtain ⟨_, hns, _⟩ := hl₂
    obtain ⟨o, es, ep, ho, hd, _⟩ := hns
    rw [e, hP₂] at ho; cases ho; cases hd
  have hl₃ : h₃.NoLimit := hl₂.extBut hx₃ hcP
  have old₃ : ∀ b o, h₀.get? b = some o → h₃.get? b = some o := fun b o e => hx₃ b o (fun q => by rw [q, hm.2.2] at e; cases e) (F₂.keep b o e)
  have F₃ : Fr h₀ L h₃ m := ⟨F₂.ns.extBut hx₃ hm.2.1.symm, old₃, F.above⟩
  obtain ⟨bm, ob, b1, b2, b3, b4, b5, b6⟩ := T.bmain
  refine wpAny_builtinsFor (T.g.keeps old₃) b1 b2 (old₃ _ _ b3) b4 b5 b6 ?_
  have inw : ∀ b ∈ [H₀.objs.size + 4, H₀.objs.size + 3, H₀.objs.size, H₀.objs.size + 1], H₀.objs.size ≤ b := by
    intro b hb
    simp only [List.mem_cons, List.not_mem_nil, or_false] at hb
    rcases hb with rfl | rfl | rfl | rfl
    · exact Nat.le_add_right _ _
    · exact Nat.le_add_right _ _
    · exact Nat.le_refl _
    · exact Nat.le_add_right _ _
  have inf : ∀ b ∈ [H₀.objs.size + 4, H₀.objs.size + 2, H₀.objs.size + 3, H₀.objs.size, H₀.objs.size + 1], H₀.objs.size ≤ b ∧ b < H₂.objs.size := by
    intro b hb
    rw [hsz2]
    simp only [List.mem_cons, List.not_mem_nil, or_false] at hb
    rcases hb with rfl | rfl | rfl | rfl | rfl
    · exact ⟨Nat.le_add_right _ _, Nat.add_lt_add_left (by decide) _⟩
    · exact ⟨Nat.le_add_right _ _, Nat.add_lt_add_left (by decide) _⟩
    · exact ⟨Nat.le_add_right _ _, Nat.add_lt_add_left (by decide) _⟩
    · exact ⟨Nat.le_refl _, Nat.lt_add_of_pos_right (by decide)⟩
    · exact ⟨Nat.le_add_right _ _, Nat.add_lt_add_left (by decide) _⟩
  have kne : ∀ b, H₀.objs.size ≤ b → b ≠ P := fun b hb e => absurd hPl (by rw [← e]; exact Nat.not_lt_of_le hb)
  have up : ∀ b o, H₀.objs.size ≤ b → H₂.get? b = some o → h₃.get? b = some o := fun b o hb e => hx₃ b o (kne b hb) e
  have cl0 : cStatics < H₀.objs.size := by
    obtain ⟨_, hns, _⟩ := T.nolimit
    obtain ⟨o, _, _, e, _⟩ := hns
    exact Heap.lt_size (K₀ _ _ (F.keep _ _ e))
  refine ⟨H₀.objs.size + 4, [H₀.objs.size + 4, H₀.objs.size + 2, H₀.objs.size + 3, H₀.objs.size, H₀.objs.size + 1], [H₀.objs.size + 4, H₀.objs.size + 3, H₀.objs.size, H₀.objs.size + 1], n, _, _, _, (fun _ => true), Fv, rfl,
    (fun A' hA => walksB hA _ _ _ _ _ (zb_apart _) x y tx ty n hxn hyn), (fun i vals hv => by obtain ⟨c, d, t1, t2, _, _, e⟩ := hv; exact ⟨_, _, e⟩),
    ⟨up _ _ (Nat.le_add_right _ _) hz, up _ _ (Nat.le_add_right _ _) hTI, ⟨_, _, up _ _ (Nat.le_add_right _ _) hTO⟩, bit_ext hb1 hx₃ (kne _ (Nat.le_refl _)), bit_ext hb2 hx₃ (kne _ (Nat.le_add_right _ _))⟩,
    (fun b hb => Nat.lt_of_lt_of_le (inf b hb).2 hsz), hl₃, (fun hmem => absurd cl0 (Nat.not_lt_of_le (inw _ hmem))), (fun href hhref => ?_), fun a' h₅ tk gs hgb hag hsz₅ hk₅ W hat => ?_⟩
  · refine ⟨fun A' E' i va vb t m₂ _ _ _ _ _ _ _ _ => wpAny_pure ⟨rfl, ⟨t.heap, t.toks, rfl, fun _ _ e => e⟩⟩, fun A' E' i va vb t m₂ hA hD hU hP' _ hn hma hmb hkp => ?_⟩
    obtain ⟨c1, d1, t1, t2, hc1, hd1, e⟩ := hP'
    have ea : va = .int (c1.toNat : Int) t1 := by have := congrArg (fun z => z[0]?) e; simpa using this
    have eb : vb = .int (d1.toNat : Int) t2 := by have := congrArg (fun z => z[1]?) e; simpa using this
    subst ea eb
    refine hq cv _ A' E' i c1 d1 t1 t2 t m₂ hA hD hU hc1 hd1 hn hma hmb fun b o hbP e => ?_
    have e0 := K₀ b o e
    have e3 := hx₃ b o hbP (K₂ b o e0)
    exact hkp b (List.mem_range.mpr (Heap.lt_size e3)) (fun hbw => absurd (Heap.lt_size e0) (Nat.not_lt_of_le (inw b hbw))) o (hhref b o e3)
  · have big : H₀.objs.size ≤ h₃.objs.size := Nat.le_trans (by rw [hsz2]; exact Nat.le_add_right _ _) hsz
    have pos : 0 < H₀.objs.size := Nat.lt_of_le_of_lt (Nat.zero_le _) lL
    refine hQ (H₀.objs.size - 1) a' _ h₅ tk gs ps' (Nat.le_sub_one_of_lt lL) hgb ht' (F₃.keeps hk₅) (gen_back hgr (fun q hq => ?_) hP' hm.2 hk₅) (le_back hgr fun q hq => Nat.le_sub_one_of_lt (lN q hq)) (by rw [hsz₅]; exact Nat.lt_succ_of_lt (Nat.lt_trans (Nat.lt_of_lt_of_le (Nat.sub_lt pos Nat.one_pos) big) hag)) ?_ hat.1
    · rcases hq with hq | hq
      · have n := N q (List.mem_append_left _ hq)
        exact ⟨hx₃ _ _ (u1 q hq) (K₂ _ _ (K₀ _ _ n.1)), n.2⟩
      · have n := N q (List.mem_append_right _ (.tail _ hq))
        exact ⟨hx₃ _ _ (u2 q hq) (K₂ _ _ (K₀ _ _ n.1)), n.2⟩
    · rw [passing_len] at W
      refine ⟨_, _, _, _, W.imp (P' := Fv) (fun j y ⟨i, hi, hF⟩ => passing_at hi ▸ hF), hat, (fun i s' st => st.1.typeIs), List.mem_cons_self, ?_, ?_⟩
      · intro b hb
        show b < h₅.objs.size
        rw [hsz₅]
        rcases List.mem_cons.mp hb with rfl | hb
        · exact Nat.lt_succ_self _
        · rcases List.mem_cons.mp hb with rfl | hb
          · exact Nat.lt_succ_of_lt hag
          · exact Nat.lt_succ_of_lt (Nat.lt_trans (List.mem_range.mp hb) hag)
      · intro b hb
        rcases List.mem_cons.mp hb with rfl | hb
        · exact Nat.lt_of_lt_of_le (Nat.sub_lt pos Nat.one_pos) big
        · exact Nat.lt_of_lt_of_le (Nat.sub_lt pos Nat.one_pos) (inw b hb)
end
end Mine
end

-- part JQ
section
open PySem PySem.W PySem.Calls PyProof.Rows
namespace Mine
set_option maxRecDepth 100000
set_option maxHeartbeats 4000000
set_option linter.unusedVariables false

theorem fill8 (w : World) (h : Heap) : (hd.heap_39 w.params).In h → PySem.Challenge.rw_jb0038_01.row.prog = PySem.Challenge.rw_jb0038_01.row.prog := by
  k_fill
  exact fun _ => rfl

/-- one share: where it lies, and what it holds -/
noncomputable def ShareAt (news : List (Addr × Obj)) (v : Value) (p : Nat × Array UInt8) : Prop :=
  ∃ x dd t0 t1, v = .ref x ∧ (x, shareObj dd (.int (p.1 : Nat) t0) (.bytes p.2 t1) 0) ∈ news


theorem share_tail {news : List (Addr × Obj)} {v : Value} {p : Nat × Array UInt8} {q : Addr × Obj} (h : ShareAt news v p) : ShareAt (q :: news) v p := by
  obtain ⟨x, dd, t0, t1, e, hm⟩ := h
  exact ⟨x, dd, t0, t1, e, .tail _ hm⟩
theorem getD_some {α : Type} {l : List α} {i : Nat} {q d : α} (h : l[i]? = some q) : l.getD i d = q := by rw [List.getD_eq_getElem?_getD, h]; rfl
theorem getD_map {α β : Type} {l : List α} {i : Nat} {q : α} {d : β} {f : α → β} (h : l[i]? = some q) : (l.map f).getD i d = f q := by rw [List.getD_eq_getElem?_getD, List.getElem?_map, h]; rfl
theorem scan_ok {n : Nat} (h : n ≤ 16) : n + 1 < scanBound := Nat.lt_of_le_of_lt (Nat.succ_le_succ h) (by decide)
theorem small63 {n : Nat} (h : n ≤ 16) : ((n : Nat) : Int) < 2 ^ 63 := Int.lt_of_le_of_lt (Int.ofNat_le.mpr h) (by decide)
theorem depth_ok {a b R : Nat} (h : a ≤ b) (h2 : b + 2 < R) : a + 2 < R := Nat.lt_of_le_of_lt (Nat.add_le_add_right h 2) h2
theorem units_ok {a b R : Nat} (h : a ≤ b + 8) (h2 : b + 8 + 17 < R) : a + 17 < R := Nat.lt_of_le_of_lt (Nat.add_le_add_right h 17) h2
theorem bne_lt {a b : Nat} (h : ¬ a = b) : (((a : Nat) : Int) != ((b : Nat) : Int)) = true := bne_iff_ne.mpr fun e => h (Int.ofNat_inj.mp e)
theorem bne_eq {a b : Nat} (h : a = b) : (((a : Nat) : Int) != ((b : Nat) : Int)) = false := by rw [h]; exact bne_self_eq_false _
noncomputable def isStrV : Value → Bool
  | .str _ _ => true
  | _ => false
noncomputable def isIntV : Value → Bool
  | .int _ _ => true
  | _ => false
noncomputable def isBoolV : Value → Bool
  | .bool _ => true
  | _ => false
theorem isStrV_of {v : Value} (h : isStrV v = true) : ∃ x t, v = .str x t := by cases v <;> first | exact ⟨_, _, rfl⟩ | cases h
theorem isIntV_of {v : Value} (h : isIntV v = true) : ∃ x t, v = .int x t := by cases v <;> first | exact ⟨_, _, rfl⟩ | cases h
theorem isBoolV_of {v : Value} (h : isBoolV v = true) : ∃ x, v = .bool x := by cases v <;> first | exact ⟨_, rfl⟩ | cases h
noncomputable def fieldsOf (o : Obj) : Option (Array Value) := match o.data with
  | .fields vs => some vs
  | _ => none
theorem fieldsOf_eq {o : Obj} {vs : Array Value} (h : fieldsOf o = some vs) : o.data = .fields vs := by
  obtain ⟨c, d, dt, sl⟩ := o
  cases dt <;> first | exact congrArg Data.fields (Option.some.inj h) | cases (show (none : Option (Array Value)) = some vs from h)
noncomputable def codeHdV (P : Addr) (vs : Array Value) : Bool := (vs[11]? == some (.ref P)) && isStrV (vs.getD 18 .none) && isIntV (vs.getD 7 .none) && isBoolV (vs.getD 9 .none) && isIntV (vs.getD 10 .none)
noncomputable def codeHdO (P : Addr) (o : Obj) : Bool := o.cls == .type "code" && ((fieldsOf o).map (codeHdV P)).getD false
noncomputable def codeHdIn (K : Frag) (c P : Addr) : Bool := ((K.lookup c).map (codeHdO P)).getD false
theorem codeHd_of {K : Frag} {c P : Addr} {h : Heap} (X : K.In h) (e : codeHdIn K c P = true) (hne : c ≠ P) : CodeHd h c P := by
  unfold codeHdIn at e
  cases ho : K.lookup c with
  | none => rw [ho] at e; exact Bool.noConfusion (e : false = true)
  | some o =>
    rw [ho] at e
    replace e : (o.cls == .type "code" && ((fieldsOf o).map (codeHdV P)).getD false) = true := e
    rw [Bool.and_eq_true] at e
    obtain ⟨e1, e⟩ := e
    cases hv : fieldsOf o with
    | none => rw [hv] at e; exact Bool.noConfusion (e : false = true)
    | some vs =>
      rw [hv] at e
      replace e : codeHdV P vs = true := e
      unfold codeHdV at e
      simp only [Bool.and_eq_true] at e
      obtain ⟨⟨⟨⟨e2, e3⟩, e4⟩, e5⟩, e6⟩ := e
      obtain ⟨file, tf, h2⟩ := isStrV_of e3
      obtain ⟨flags, tg, h3⟩ := isIntV_of e4
      obtain ⟨inF, h4⟩ := isBoolV_of e5
      obtain ⟨text, tt, h5⟩ := isIntV_of e6
      have h1 := beq_iff_eq.mp e2
      exact ⟨o, vs, file, tf, flags, tg, inF, text, tt, X _ _ ho, beq_iff_eq.mp e1, fieldsOf_eq hv, h1, by rw [Array.getD_eq_getD_getElem?, h1]; rfl, h2, h3, h4, h5, hne⟩
theorem ip_hd (w : World) : codeHdIn (hd.heap_39 w.params) 160 156 = true := by kernel_rfl

theorem mem_g {g : Obj → List (Addr × Obj)} {ps : Array Value} (U : UpdF 156 (tabObj ps) (g (tabObj ps)) g) : (156, tabObj ps) ∈ g (tabObj ps) := by
  obtain ⟨own, rest, e, -, -, -⟩ := U.split
  rw [e]; simp
theorem up_of {G h h' : Heap} {L : Addr} {m : Str → Option Value} {news : List (Addr × Obj)} {P : Addr} {oP : Obj} (F : Fr G L h m) (N : News G L h news) (hm : (P, oP) ∈ news) (hk : ∀ b o, b ≠ P → h.get? b = some o → h'.get? b = some o) : ∀ b o, G.get? b = some o → h'.get? b = some o :=
  fun b o e => hk b o (fun q => by rw [q, (N _ hm).2.2] at e; cases e) (F.keep b o e)

theorem share_up {G h h' : Heap} {L : Addr} {news : List (Addr × Obj)} {x : Addr} {dd : Option Addr} {v0 v1 : Value} {n : Nat} (N : News G L h news) (hm : (156, tabObj ps) ∈ news) (hmem : (x, shareObj dd v0 v1 n) ∈ news) (hk : ∀ b o, b ≠ 156 → h.get? b = some o → h'.get? b = some o) : h'.get? x = some (shareObj dd v0 v1 n) := by
  refine hk _ _ (fun q => ?_) (N _ hmem).1
  have e1 := (N _ hmem).1
  have e2 := (N _ hm).1
  dsimp only at e1 e2
  rw [q, e2] at e1; cases e1

noncomputable def uniq (l : List Int) : List Int := l.foldl step_dedup []
theorem firstMet_map {α : Type} (l : List α) (f : α → Int) (d : α) : firstMet (fun i => f (l.getD i d)) l.length = uniq (l.map f) := by
  unfold firstMet uniq
  congr 1
  apply List.ext_getElem
  · simp
  · intro i h1 h2
    simp only [List.length_map, List.length_range] at h1
    simp [List.getD_eq_getElem?_getD, List.getElem?_eq_getElem h1]
theorem uniq_le (l : List Int) : (uniq l).length ≤ l.length := by
  have h := firstMet_map l id 0
  have h2 := firstMet_length_le (fun i => id (l.getD i 0)) l.length
  rw [h] at h2
  simpa using h2
/-- the set object o holds the ints of l, each once -/
noncomputable def SetInts (w : World) (o : Obj) (l : List Int) : Prop := o.SetObjOf (intKind PySem.Challenge.rw_jb0038_01.row.prog w) (fun k => l.any (· == k)) l.length

noncomputable def lbe (pts : List (Nat × Array UInt8)) (x0 xi : Nat) : Nat :=
  ((((pts.map fun q => ((logN (q.1 ^^^ x0) : Nat) : Int)).sum - (logN (xi ^^^ x0) : Nat)) - (pts.map fun q => ((logN (xi ^^^ q.1) : Nat) : Int)).sum) % 255).toNat
noncomputable def ipStep (l : Nat) (d r : List Nat) : List Nat := List.zipWith (fun v i => byteStep l v i) d r
noncomputable def ipLoop (pts : List (Nat × Array UInt8)) (x0 : Nat) (z : Nat) : List Nat :=
  pts.foldl (fun r q => ipStep (lbe pts x0 q.1) (q.2.toList.map (·.toNat)) r) (List.replicate z 0)
noncomputable def bytesN (l : List Nat) : Array UInt8 := (l.map fun n => n.toUInt8).toArray
noncomputable def xsI (pts : List (Nat × Array UInt8)) : List Int := pts.map fun q => ((q.1 : Nat) : Int)
noncomputable def lensI (pts : List (Nat × Array UInt8)) : List Int := pts.map fun q => ((q.2.size : Nat) : Int)
/-- what `_interpolate` answers: none for a refusal -/
noncomputable def ipN (pts : List (Nat × Array UInt8)) (x0 : Nat) : Option (Array UInt8) :=
  if (uniq (xsI pts)).length ≠ pts.length then none
  else if (uniq (lensI pts)).length ≠ 1 then none
  else match pts.find? (fun q => q.1 == x0) with
    | some q => some q.2
    | none => some (bytesN (ipLoop pts x0 ((uniq (lensI pts)).headD 0).toNat))
theorem raisedK_mono {base : Heap} {l : List Env} {e : Addr} {cls : Value} {t : Addr} {vs : List Value} {news news' : List (Addr × Obj)} {h : Heap} (R : RaisedK base l e cls t vs news h) (hs : ∀ q ∈ news', q ∈ news) : RaisedK base l e cls t vs news' h :=
  ⟨let ⟨B, a, b, c⟩ := R.1; ⟨B, a, fun q hq => b q (hs q hq), c⟩, R.2⟩

theorem apart_map {l l' : List (Addr × Obj)} (e : l.map (·.1) = l'.map (·.1)) {S : Addr} (h : ∀ q ∈ l, q.1 ≠ S) : ∀ q ∈ l', q.1 ≠ S := by
  intro q hq e2
  have : q.1 ∈ l.map (·.1) := by rw [e]; exact List.mem_map_of_mem hq
  obtain ⟨r, hr, e3⟩ := List.mem_map.mp this
  exact h r hr (e3.trans e2)
theorem step_dedup_any (l : List Int) (v x : Int) : (step_dedup l v).any (· == x) = (l.any (· == x) || v == x) := by
  unfold step_dedup
  by_cases h : l.any (· == v) = true
  · rw [if_pos h]
    by_cases e : v = x
    · subst e; simp [h]
    · simp [e]
  · rw [if_neg h, List.any_append]; simp
theorem foldl_dedup_any (l : List Int) : ∀ (acc : List Int) (x : Int), (l.foldl step_dedup acc).any (· == x) = (acc.any (· == x) || l.any (· == x)) := by
  induction l with
  | nil => intro acc x; simp
  | cons v l ih => intro acc x; rw [List.foldl_cons, ih, step_dedup_any, List.any_cons, Bool.or_assoc]
theorem uniq_any (l : List Int) (x : Int) : (uniq l).any (· == x) = l.any (· == x) := by
  unfold uniq; rw [foldl_dedup_any]; simp
theorem xs_any (pts : List (Nat × Array UInt8)) (x0 : Nat) : (uniq (xsI pts)).any (· == (x0 : Int)) = pts.any (fun q => q.1 == x0) := by
  rw [uniq_any]
  unfold xsI
  rw [List.any_map]
  congr 1
  funext q
  show ((((q.1 : Nat) : Int)) == (x0 : Int)) = (q.1 == x0)
  rw [Bool.eq_iff_iff, beq_iff_eq, beq_iff_eq]
  exact Int.ofNat_inj
theorem find_first {x0 : Nat} : ∀ (l : List (Nat × Array UInt8)) (i : Nat) (hi : i < l.length), (∀ j q, j < i → l[j]? = some q → q.1 ≠ x0) → l[i].1 = x0 → l.find? (fun q => q.1 == x0) = some l[i]
  | [], i, hi, _, _ => by simp at hi
  | p :: l, 0, _, _, h => by
    have h' : p.1 = x0 := h
    simp [h']
  | p :: l, i + 1, hi, hno, h => by
    have h0 : p.1 ≠ x0 := hno 0 p (Nat.succ_pos _) rfl
    have ih := find_first l i (by simpa using hi) (fun j q hj e => hno (j + 1) q (Nat.succ_lt_succ hj) (by simpa using e)) (by simpa using h)
    simp only [List.getElem_cons_succ]
    rw [List.find?_cons_of_neg (by simpa using h0)]
    exact ih
theorem lens_one {pts : List (Nat × Array UInt8)} (h : (uniq (lensI pts)).length = 1) : ∃ z : Nat, uniq (lensI pts) = [(z : Int)] ∧ (∀ q ∈ pts, q.2.size = z) ∧ ∃ q ∈ pts, q.2.size = z := by
  obtain ⟨z, hu⟩ := List.length_eq_one_iff.mp h
  rw [hu]
  · have h1 : ∀ x : Int, ([z].any (· == x)) = (lensI pts).any (· == x) := fun x => by rw [← hu, uniq_any]
    have h2 := h1 z
    rw [show ([z].any (· == z)) = true by simp] at h2
    obtain ⟨y, hy, e⟩ := List.any_eq_true.mp h2.symm
    obtain ⟨q, hq, rfl⟩ := List.mem_map.mp hy
    have ez : ((q.2.size : Nat) : Int) = z := by simpa using e
    refine ⟨q.2.size, by rw [ez], fun r hr => ?_, q, hq, rfl⟩
    have h3 := h1 ((r.2.size : Nat) : Int)
    rw [show (lensI pts).any (· == ((r.2.size : Nat) : Int)) = true from List.any_eq_true.mpr ⟨_, List.mem_map.mpr ⟨r, hr, rfl⟩, by simp⟩] at h3
    have h4 : z = ((r.2.size : Nat) : Int) := by simpa using h3
    exact Int.ofNat_inj.mp (h4.symm.trans ez.symm)
/-- the sum after the first i shares -/
noncomputable def lpN (pts : List (Nat × Array UInt8)) (x0 z i : Nat) : List Nat :=
  (pts.take i).foldl (fun r q => ipStep (lbe pts x0 q.1) (q.2.toList.map (·.toNat)) r) (List.replicate z 0)
theorem lpN_all (pts : List (Nat × Array UInt8)) (x0 z : Nat) : lpN pts x0 z pts.length = ipLoop pts x0 z := by
  unfold lpN ipLoop; rw [List.take_length]
theorem lpN_succ {pts : List (Nat × Array UInt8)} {x0 z i : Nat} (hi : i < pts.length) : lpN pts x0 z (i + 1) = ipStep (lbe pts x0 pts[i].1) (pts[i].2.toList.map (·.toNat)) (lpN pts x0 z i) := by
  unfold lpN
  rw [List.take_add_one, List.getElem?_eq_getElem hi, List.foldl_append]
  rfl
theorem expT_lt : ∀ v ∈ expT, v < 256 := by
  have h : (expT.all fun v => decide (v < 256)) = true := by decide +kernel
  intro v hv
  have := List.all_eq_true.mp h v hv
  simpa using this
theorem expN_lt (k : Nat) : expN k < 256 := by
  unfold expN
  rw [List.getD_eq_getElem?_getD]
  cases h : expT[k]? with
  | none => simp
  | some v => exact expT_lt v (List.mem_of_getElem? h)
theorem byteStep_lt {l v i : Nat} (hi : i < 256) : byteStep l v i < 256 := by
  unfold byteStep
  refine lt_of_xor hi ?_
  split
  · exact expN_lt _
  · decide
theorem lpN_len {pts : List (Nat × Array UInt8)} {x0 z : Nat} (hz : ∀ q ∈ pts, q.2.size = z) : ∀ i, i ≤ pts.length → (lpN pts x0 z i).length = z
  | 0, _ => by simp [lpN]
  | i + 1, hi => by
    rw [lpN_succ hi]
    unfold ipStep
    rw [List.length_zipWith, lpN_len hz i (Nat.le_of_succ_le hi), List.length_map, Array.length_toList, hz _ (List.getElem_mem _), Nat.min_self]
theorem zipWith_lt {l : Nat} : ∀ (d r : List Nat), (∀ v ∈ r, v < 256) → ∀ v ∈ List.zipWith (fun v i => byteStep l v i) d r, v < 256
  | [], _, _, _, h => by simp at h
  | _ :: _, [], _, _, h => by simp at h
  | a :: d, b :: r, hr, v, h => by
    rw [List.zipWith_cons_cons] at h
    rcases List.mem_cons.mp h with rfl | h
    · exact byteStep_lt (hr b (.head _))
    · exact zipWith_lt d r (fun v hv => hr v (.tail _ hv)) v h
theorem lpN_lt {pts : List (Nat × Array UInt8)} {x0 z : Nat} : ∀ i, i ≤ pts.length → ∀ v ∈ lpN pts x0 z i, v < 256
  | 0, _, v, hv => by
    have : v = 0 := by simpa [lpN] using (List.eq_of_mem_replicate (by simpa [lpN] using hv))
    rw [this]; decide
  | i + 1, hi, v, hv => by
    rw [lpN_succ hi] at hv
    exact zipWith_lt _ _ (lpN_lt i (Nat.le_of_succ_le hi)) v hv
theorem getD_lt {l : List Nat} (h : ∀ v ∈ l, v < 256) (j : Nat) : l.getD j 0 < 256 := by
  rw [List.getD_eq_getElem?_getD]
  cases e : l[j]? with
  | none => simp
  | some v => exact h v (List.mem_of_getElem? e)
theorem bytesN_zero (z : Nat) : bytesN (List.replicate z 0) = Array.replicate z 0 := by
  unfold bytesN
  rw [List.map_replicate]
  exact List.toArray_replicate z (Nat.toUInt8 0)
theorem bytesN_size (l : List Nat) : (bytesN l).size = l.length := by simp [bytesN]
theorem bytesN_at {l : List Nat} (hl : ∀ v ∈ l, v < 256) {j : Nat} {c : UInt8} (h : (bytesN l)[j]? = some c) : c.toNat = l.getD j 0 := by
  unfold bytesN at h
  rw [List.getElem?_toArray, List.getElem?_map] at h
  obtain ⟨n, hn, rfl⟩ := Option.map_eq_some_iff.mp h
  have := hl n (List.mem_of_getElem? hn)
  rw [List.getD_eq_getElem?_getD, hn]
  simp only [Option.getD_some]
  show n.toUInt8.toNat = n
  simp only [Nat.toUInt8, UInt8.toNat_ofNat']
  exact Nat.mod_eq_of_lt this
theorem toList_at {b : Array UInt8} {j : Nat} {c : UInt8} (h : b[j]? = some c) : c.toNat = (b.toList.map (·.toNat)).getD j 0 := by
  rw [List.getD_eq_getElem?_getD, List.getElem?_map, Array.getElem?_toList, h]; rfl
theorem bytesV_step {l z : Nat} {d r : List Nat} (hd : d.length = z) (hr : r.length = z) : bytesV (fun j => byteStep l (d.getD j 0) (r.getD j 0)) z = bytesN (ipStep l d r) := by
  unfold bytesV bytesN ipStep
  congr 1
  apply List.ext_getElem
  · simp [hd, hr]
  · intro i h1 h2
    simp only [List.length_map, List.length_range] at h1
    have e1 : i < d.length := hd ▸ h1
    have e2 : i < r.length := hr ▸ h1
    simp [List.getD_eq_getElem?_getD, List.getElem?_eq_getElem e1, List.getElem?_eq_getElem e2]
theorem lbe_cast (pts : List (Nat × Array UInt8)) (x0 xi : Nat) : ((((pts.map fun q => ((logN (q.1 ^^^ x0) : Nat) : Int)).sum - (logN (xi ^^^ x0) : Nat)) - (pts.map fun q => ((logN (xi ^^^ q.1) : Nat) : Int)).sum).fmod 255) = ((lbe pts x0 xi : Nat) : Int) := by
  unfold lbe
  rw [Int.fmod_eq_emod_of_nonneg _ (by decide)]
  have := Int.emod_nonneg ((((pts.map fun q => ((logN (q.1 ^^^ x0) : Nat) : Int)).sum - (logN (xi ^^^ x0) : Nat)) - (pts.map fun q => ((logN (xi ^^^ q.1) : Nat) : Int)).sum)) (show (255 : Int) ≠ 0 by decide)
  exact (Int.toNat_of_nonneg this).symm
theorem fr_keeps {h₀ : Heap} {L : Addr} {m : Str → Option Value} {s s' : Shared} (F : Fr h₀ L s.heap m) (k : Keeps s s') : Fr h₀ L s'.heap m := F.keeps fun _ _ e => keeps_heap k e
theorem news_keeps {h₀ : Heap} {L : Addr} {news : List (Addr × Obj)} {s s' : Shared} (N : News h₀ L s.heap news) (k : Keeps s s') : News h₀ L s'.heap news := fun p hp => ⟨keeps_heap k (N p hp).1, (N p hp).2⟩

section
variable {w : World} {p : Program} {loose : List Str} {mean : ExcName → Option Value} {mg mb : Str → Option Value} {A : Around} {E : Value → Shared → Prop} {s : Shared} {G : Heap} {L a : Addr} {m : Str → Option Value} {cn : Str} {cs : Scope} {cl : List (Str × Addr)} {gg : Obj → List (Addr × Obj)} {ps : Array Value}
/-- a generator expression over the list `shares` -/
theorem gen_shares {elt : Expr} {x : Str} {px pi : Pos} {scope : Scope} {clo : List (Str × Addr)} {pos : Pos} {Q : Value → Shared → Prop} {c : Addr} {oc : Obj} {vs : List Value} {pts : List (Nat × Array UInt8)} (Fv : Nat → Value → Prop)
    (F : Fr G L s.heap m) (N : News G L s.heap (gg (tabObj ps))) (X : (hd.heap_39 w.params).In G) (T : Top p loose mean mg mb G) (U : UpdF 156 (tabObj ps) (gg (tabObj ps)) gg) (ht : TriplesOk ps.toList)
    (hh : A.handled = none) (hclos : closureFor scope (envX cn cs L a (.ref 160) cl) = pure clo) (hroom : A.depth < recursionLimit)
    (hc : (c, oc) ∈ gg (tabObj ps)) (hoc : IsListObj oc vs) (hlen : vs.length = pts.length) (hsh : ∀ (i : Nat) v q, vs[i]? = some v → pts[i]? = some q → ShareAt (gg (tabObj ps)) v q)
    (hm : m (Str.ofString "shares") = some (.ref c))
    (hel : ∀ (cv : Value) (D : Addr) (A' : Around) E' (i : Nat) (q : Nat × Array UInt8) y dd t0 t1 (t : Shared) m₂, A'.handled = none → A'.depth ≤ A.depth + 1 → A'.units ≤ A.units + 8 → pts[i]? = some q → t.heap.Ns D m₂ → m₂ x = some (.ref y) →
      t.heap.get? y = some (shareObj dd (.int (q.1 : Nat) t0) (.bytes q.2 t1) 0) → (hd.heap_39 w.params).In t.heap → Top p loose mean mg mb t.heap → (∀ b o, b ≠ 156 → s.heap.get? b = some o → t.heap.get? b = some o) →
      wpAny (model PySem.Challenge.rw_jb0038_01.row.prog w) A' (eval elt (genEnv scope clo D cv builtinsNs (envX cn cs L a (.ref 160) cl))) (fun y s₃ => Fv i y ∧ Keeps t s₃) E' t)
    (hQ : ∀ K a' h₅ tk gs ps', L ≤ K → gs.bare = true → TriplesOk ps'.toList → Fr G L h₅ m → News G L h₅ (gg (tabObj ps')) → (∀ q ∈ gg (tabObj ps'), q.1 ≤ K) → K < h₅.objs.size →
          Gen PySem.Challenge.rw_jb0038_01.row.prog w A K a' pts.length Fv { s with heap := h₅, toks := tk, gens := s.gens.push gs } →
          Q (.ref a') { s with heap := h₅, toks := tk, gens := s.gens.push gs })
    (hs : ∀ y, genFold (.Name (Str.ofString "shares") pi) (envX cn cs L a (.ref 160) cl) y = pure y)
    (hk : cs.kind = .function) (hkx : (envX cn cs L a (.ref 160) cl).kindOf (Str.ofString "shares") = some .local)
    (hco : scope.isCoroutine = false) (hcell : ∀ y ∈ scope.names, y.2 ≠ .cell) (h0 : scope.names.lookup (".0" : Str) = some NameKind.local)
    (hx : scope.names.lookup x = some .local) (hkind : scope.kind = .function) :
    wpAny (model PySem.Challenge.rw_jb0038_01.row.prog w) A (eval (.GeneratorExp elt [⟨.Name x px, .Name (Str.ofString "shares") pi, [], 0⟩] scope pos) (envX cn cs L a (.ref 160) cl)) Q E s := by
  refine gen_list (P := 156) (ps := ps) (g := gg) F N T (codeHd_of X (ip_hd w) (by decide)) rfl U ht hh hclos hroom ?_ hs hco hcell h0 hx hkind
  refine nameX_L F (v := .ref c) hm ?_ hk hkx
  refine ⟨keeps_refl _, c, vs.toArray, Fv, rfl, hoc.at (N _ hc).1, ?_, ?_⟩
  · intro cv D A' E' i v t m₂ hA hD hU hv hns hmx hkeep
    have hi : i < pts.length := by
      have := (Array.getElem?_eq_some_iff.mp hv).1
      simpa [hlen] using this
    obtain ⟨y, dd, t0, t1, rfl, hmem⟩ := hsh i v pts[i] (by simpa using hv) (by simp [hi])
    have up := up_of F N (mem_g U) hkeep
    exact hel cv D A' E' i pts[i] y dd t0 t1 t m₂ hA hD hU (by simp [hi]) hns hmx (share_up N (mem_g U) hmem hkeep) (X.keeps up) (T.keeps up) hkeep
  · have e : vs.toArray.size = pts.length := by simp [hlen]
    rw [e]
    exact hQ
end
end Mine
end

-- part JN
section
open PySem PySem.W PySem.Calls PyProof.Rows
namespace Mine
set_option maxRecDepth 100000
set_option maxHeartbeats 4000000
set_option linter.unusedVariables false
set_option linter.unusedSimpArgs false

theorem fill10 (w : World) (h : Heap) : (hd.heap_39 w.params).In h → PySem.Challenge.rw_jb0038_01.row.prog = PySem.Challenge.rw_jb0038_01.row.prog := by
  k_fill
  exact fun _ => rfl

section
variable {w : World} {p : Program} {loose : List Str} {mean : ExcName → Option Value} {mg mb : Str → Option Value} {dp un : Nat} {gd : Option (List Code)} {cn : Str} {cs : Scope} {a : Addr} {ccd : Value} {cl : List (Str × Addr)} {outer : List Env} {A₀ : Around} {base h₀ : Heap} {L : Addr} {m : Str → Option Value} {s : Shared} {Q E : Value → Shared → Prop} {g : Obj → List (Addr × Obj)} {ps : Array Value}
theorem interp_c {c : Addr} {oc : Obj} {vs : List Value} {pts : List (Nat × Array UInt8)} {x0 : Nat} {tx : Tok}
    (B : Below A₀ base outer h₀) (F : Fr h₀ L s.heap m) (X : (hd.heap_39 w.params).In h₀) (N : News h₀ L s.heap (g (tabObj ps))) (T : Top p loose mean mg mb h₀) (hk : cs.kind = .function)
    (U : ∀ ps, UpdF 156 (tabObj ps) (g (tabObj ps)) g) (hadr : ∀ o o', (g o).map (·.1) = (g o').map (·.1)) (ht : TriplesOk ps.toList)
    (hc : ∀ o, (c, oc) ∈ g o) (hoc : IsListObj oc vs) (hlen : vs.length = pts.length) (hsh : ∀ o (i : Nat) v p, vs[i]? = some v → pts[i]? = some p → ShareAt (g o) v p) (hn : pts.length ≤ 16) (hp : ∀ p ∈ pts, p.1 < 256 ∧ p.2.size ≤ 4) (hx : x0 < 256) (hd9 : dp + 6 < recursionLimit) (hu9 : un + 40 < cLine)
    (hexc : ipN pts x0 = none → ∀ e t vs' g1 h' gs tk ps', (AllBare s.gens → AllBare gs) → TriplesOk ps'.toList → Fr h₀ L g1 m → g1.UpToSlots h' → RaisedK base (envX cn cs L a ccd cl :: outer) e (.ref 31) t vs' (g (tabObj ps')) h' →
      E (.ref e) { s with heap := h', toks := tk, gens := gs }) 
    (hret : ∀ b, ipN pts x0 = some b → ∀ t h' gs dr tk ps', (AllBare s.gens → AllBare gs) → TriplesOk ps'.toList → Fr h₀ L h' m → News h₀ L h' (g (tabObj ps')) → Q (.bytes b t) { s with heap := h', toks := tk, gens := gs, drawn := dr }) :
    wpAny (model PySem.Challenge.rw_jb0038_01.row.prog w) (ktrTop dp un gd cn cs L a ccd cl outer) (PySem.call (.ref 161) [.ref c, .int (x0 : Nat) tx]) Q E s := by
  refine wpAny_call ?_
  k_dflt ((refine' code_defC ?k1 ?k2 ?k3 ?k4 ?k5 ?kA ?kF ?kK ?k6 ?k7 ?k8 ?k9 ?kB ?kD ?_ ?c2 ?c3 ?c4; (case kA => exact rfl); (case kF => exact rfl); (case kK => assumption); (case k1 => k_asm); (case k2 => k_asm); (case k3 => k_asm); (case k4 => k_asm); (case k5 => k_asm); (case k6 => k_is); (case k7 => k_is); (case k8 => ktr_room); (case k9 => exact BindsTo.of_eq rfl); (case kB => exact rfl); (case kD => decide +kernel); (case c2 => exact rfl); (case c3 => exact rfl); (case c4 => exact rfl); k_whole; intro g1 L1 h1 tk1 cells' FG F1 N1 Y' B1 X1 T1 l1; k_cells Y'; (try simp only [List.cons_append, List.nil_append] at N1); (try dsimp only); (try k_lift B1); (try k_fold)))
  repeat' ((fail_if_success (with_reducible show wpAny _ _ (exec (Stmt.Assign _ _ _) _) _ _ _)); first | (k_unfold; (try dsimp only)) | (k_end; wrow_close) | walk1 | (dsimp only; walk1) | (leave1; walk_say "STEP leave1"; try dsimp only) | fail "no step")
  refine cut_here fun Q1 hQ1 => ?_
  repeat' ((fail_if_success (with_reducible show wpAny _ _ (eval (Expr.GeneratorExp _ _ _ _) _) _ _ _)); first | (k_unfold; (try dsimp only)) | (k_end; wrow_close) | walk1 | (dsimp only; walk1) | (leave1; walk_say "STEP leave1"; try dsimp only) | fail "no step")
  rename_i o1 o2 o3 d1 d2 d3
  have e1 : o1.data = .cell none := d1
  have e2 : o2.data = .cell none := d2
  have e3 : o3.data = .cell (some (.int (x0 : Nat) tx)) := d3
  clear d1 d2 d3
  have n1 : ∀ p ∈ g (tabObj ps), p.1 < L1 := l1
  have n1' : ∀ o, ∀ p ∈ g o, p.1 < L1 := by
    intro o q hq
    have : q.1 ∈ (g (tabObj ps)).map (·.1) := by rw [hadr (tabObj ps) o]; exact List.mem_map_of_mem hq
    obtain ⟨r, hr, e⟩ := List.mem_map.mp this
    exact e ▸ n1 r hr
  have hL3 : ∀ o o2 o3, ∀ q ∈ ((L1 + 1 + 1, o2) :: (L1 + 1, o3) :: g o), q.1 ≠ L1 + 1 + 1 + 1 := by
    intro o o2 o3 q hq
    rcases List.mem_cons.mp hq with rfl | hq
    · exact Nat.ne_of_lt (Nat.lt_succ_self _)
    · rcases List.mem_cons.mp hq with rfl | hq
      · exact Nat.ne_of_lt (Nat.lt_trans (Nat.lt_succ_self _) (Nat.lt_succ_self _))
      · exact Nat.ne_of_lt (Nat.lt_of_lt_of_le (n1' o q hq) (Nat.le_add_right L1 3))
  have hL2 : ∀ o o3, ∀ q ∈ ((L1 + 1, o3) :: g o), q.1 ≠ L1 + 1 + 1 := by
    intro o o3 q hq
    rcases List.mem_cons.mp hq with rfl | hq
    · exact Nat.ne_of_lt (Nat.lt_succ_self _)
    · exact Nat.ne_of_lt (Nat.lt_of_lt_of_le (n1' o q hq) (Nat.le_add_right L1 2))
  have ne1 : ∀ k, L1 + k ≠ 156 := by
    obtain ⟨own, rest, e, -, -, -⟩ := (U ps).split
    have := n1 (156, tabObj ps) (by rw [e]; simp)
    exact fun k => Nat.ne_of_gt (Nat.lt_of_lt_of_le this (Nat.le_add_right _ _))
  have hd4 : dp + 2 + 2 < recursionLimit := room (c := 4) hd9 (by decide)
  have hu25 : (un + 3) + 8 + 17 < cLine := room (c := 28) hu9 (by decide)
  have hu17 : (un + 3) + 17 < cLine := room (c := 20) hu9 (by decide)
  have U1 : ∀ ps, UpdF 156 (tabObj ps) ((L1 + 1 + 1 + 1, o1) :: (L1 + 1 + 1, o2) :: (L1 + 1, o3) :: g (tabObj ps)) (fun o' => (L1 + 1 + 1 + 1, o1) :: (L1 + 1 + 1, o2) :: (L1 + 1, o3) :: g o') := fun ps => .tail (ne1 3) (.tail (ne1 2) (.tail (ne1 1) (U ps)))
  have hs1 : ∀ o (i : Nat) v q, vs[i]? = some v → pts[i]? = some q → ShareAt ((L1 + 1 + 1 + 1, o1) :: (L1 + 1 + 1, o2) :: (L1 + 1, o3) :: g o) v q := fun o i v q h1 h2 => share_tail (share_tail (share_tail (hsh o i v q h1 h2)))
  refine gen_shares (hs := by intro _; rfl) (hk := by rfl) (hkx := by rfl) (hco := by rfl) (hcell := by decide) (h0 := by rfl) (hx := by rfl) (hkind := by rfl) (ps := ps) (gg := fun o' => (L1 + 1 + 1 + 1, o1) :: (L1 + 1 + 1, o2) :: (L1 + 1, o3) :: g o') (c := c) (pts := pts) (fun i v => ∃ t, v = .int (((pts.getD i (0, #[])).1 : Nat) : Int) t) F1 N1 X1 T1 (U1 ps) ht rfl rfl (by ktr_room) (.tail _ (.tail _ (.tail _ (hc _)))) hoc hlen (hs1 _) rfl ?_ ?_
  · intro cv D A' E' i q y dd t0 t1 t m₂ hA hD hU hq hns hm hx1 X2 T2 hkeep
    refine el_attr (i := 0) (.inl ⟨rfl, rfl⟩) hA ?_ ?_ X2 T2 (fun Q E h => wpAny_Name (wpAny_loadName_local rfl rfl hns hm h)) hx1 rfl fun s' k => ?_
    · exact depth_ok (show A'.depth ≤ dp + 2 from hD) hd4
    · exact units_ok hU hu25
    · exact ⟨⟨t0, by rw [getD_some hq]; rfl⟩, k⟩
  · intro K0 a2 h2 tk2 gs2 ps2 hLK hgb2 ht2 F2 N2 hK2 hz2 Xg
    dsimp only
    repeat' ((fail_if_success (with_reducible show wpAny _ _ (PySem.call (Value.type _) _) _ _ _)); first | (k_unfold; (try dsimp only)) | (k_end; wrow_close) | walk1 | (dsimp only; walk1) | (leave1; walk_say "STEP leave1"; try dsimp only) | fail "no step")
    have hfm := firstMet_map pts (fun q => ((q.1 : Nat) : Int)) (0, #[])
    refine set_led F2 N2 hK2 hLK hz2 rfl Xg (val := fun i => ((pts.getD i (0, #[])).1 : Nat)) (fun i v h => h) (scan_ok hn) fun S oS h3 gs3 tk3 hgb3 F3 N3 hS3 hso => ?_
    have hsz : vs.toArray.size = pts.length := by simp [hlen]
    rw [hfm] at hso
    have A3 : AllBare s.gens → AllBare gs3 := fun hb => hgb3 (hb.push hgb2)
    clear hgb3 Xg hK2 hz2 hLK F2 N2
    have hset : SetInts w oS (uniq (xsI pts)) := hso
    clear hso
    have hc3 := hc (tabObj ps2)
    have hlen3 : (uniq (xsI pts)).length ≤ 16 := Nat.le_trans (uniq_le _) (by simpa [xsI] using hn)
    refine storeX_L F3 N3 fun h3b F3b N3b => hQ1 .next _ ?_
    clear hQ1 F3 N3
    try dsimp only
    repeat' ((fail_if_success (with_reducible show wpAny _ _ (exec _ _) _ _ _)); first | (k_unfold; (try dsimp only)) | (k_end; wrow_close) | walk1 | (dsimp only; walk1) | (leave1; walk_say "STEP leave1"; try dsimp only) | fail "no step")
    refine cut_here fun Q1 hQ1 => ?_
    repeat' ((fail_if_success (with_reducible show wpAny _ _ (PySem.call (Value.builtin _) _) _ _ _)); first | (k_unfold; (try dsimp only)) | (k_end; wrow_close) | walk1 | (dsimp only; walk1) | (leave1; walk_say "STEP leave1"; try dsimp only) | fail "no step")
    rename News _ _ _ _ => lN
    rename Fr _ _ _ _ => lF
    refine kse_len lN (.head hS3) hset (small63 hlen3) ?_
    have hl3 := hoc.at (lN (c, oc) (.tail _ (.tail _ (.tail _ (.tail _ hc3))))).1
    repeat' ((fail_if_success (with_reducible show wpAny _ _ (PySem.call (Value.builtin _) _) _ _ _)); first | (k_unfold; (try dsimp only)) | (k_end; wrow_close) | walk1 | (dsimp only; walk1) | (leave1; walk_say "STEP leave1"; try dsimp only) | fail "no step")
    refine PyProof.Rows.len_list (l := c) hl3 (by rw [hsz]; exact small63 hn) ?_
    rw [hsz]
    repeat' ((fail_if_success (with_reducible show wpAny _ _ (compareOp _ _ _) _ _ _)); first | (k_unfold; (try dsimp only)) | (k_end; wrow_close) | walk1 | (dsimp only; walk1) | (leave1; walk_say "STEP leave1"; try dsimp only) | fail "no step")
    refine PySem.P.ne_int ?_
    refine wpAny_truthy_bool ?_
    dsimp only
    by_cases hu1 : (uniq (xsI pts)).length = pts.length
    case neg =>
      rw [if_pos (bne_lt hu1)]
      obtain ⟨nid, bm, hq, iid, FB⟩ := exc_in w
      refine wpAny_execs_cons ?_
      refine Raise_ownX (he := by rfl) (hplain := by rfl) (hk := by rfl) (hx := by rfl) (hd := by decide) lF X1 (topRead_of T1) (exc_name w) hq FB rfl ?_
      refine args_cons ?_
      repeat' ((fail_if_success (with_reducible show wpAny _ _ (spliced _) _ _ _)); first | (k_unfold; (try dsimp only)) | (k_end; wrow_close) | walk1 | (dsimp only; walk1) | (leave1; walk_say "STEP leave1"; try dsimp only) | fail "no step")
      refine args_nil ?_
      refine ⟨by size_fits, lF.keep, fun h9 e9 hx9 => ?_⟩
      refine leave_raiseX B1 hx9 lF lN (fun h8 t8 R8 U8 => ?_) rfl rfl
      refine hexc (by unfold ipN; rw [if_pos hu1]) e9 t8 _ g1 _ _ _ ps2 A3 ht2 FG U8 (raisedK_mono R8 fun q hq => .tail _ (.tail _ (.tail _ (.tail _ hq))))
    case pos =>
      rw [if_neg (by rw [bne_eq hu1]; decide)]
      refine wpAny_execs_nil (hQ1 .next _ ?_)
      clear hQ1
      try dsimp only
      repeat' ((fail_if_success (with_reducible show wpAny _ _ (exec _ _) _ _ _)); first | (k_unfold; (try dsimp only)) | (k_end; wrow_close) | walk1 | (dsimp only; walk1) | (leave1; walk_say "STEP leave1"; try dsimp only) | fail "no step")
      refine cut_here fun Q1 hQ1 => ?_
      repeat' ((fail_if_success (with_reducible show wpAny _ _ (eval (Expr.GeneratorExp _ _ _ _) _) _ _ _)); first | (k_unfold; (try dsimp only)) | (k_end; wrow_close) | walk1 | (dsimp only; walk1) | (leave1; walk_say "STEP leave1"; try dsimp only) | fail "no step")
      have hS156 : S ≠ 156 := Ne.symm (hS3 (156, tabObj ps2) (.tail _ (.tail _ (.tail _ (mem_g (U ps2))))))
      have U2 : ∀ ps, UpdF 156 (tabObj ps) ((S, oS) :: (L1 + 1 + 1 + 1, o1) :: (L1 + 1 + 1, o2) :: (L1 + 1, o3) :: g (tabObj ps)) (fun o' => (S, oS) :: (L1 + 1 + 1 + 1, o1) :: (L1 + 1 + 1, o2) :: (L1 + 1, o3) :: g o') := fun ps => .tail hS156 (U1 ps)
      have hs2 : ∀ o (i : Nat) v q, vs[i]? = some v → pts[i]? = some q → ShareAt ((S, oS) :: (L1 + 1 + 1 + 1, o1) :: (L1 + 1 + 1, o2) :: (L1 + 1, o3) :: g o) v q := fun o i v q h1 h2 => share_tail (hs1 o i v q h1 h2)
      refine gen_shares (hs := by intro _; rfl) (hk := by rfl) (hkx := by rfl) (hco := by rfl) (hcell := by decide) (h0 := by rfl) (hx := by rfl) (hkind := by rfl) (ps := ps2) (gg := fun o' => (S, oS) :: (L1 + 1 + 1 + 1, o1) :: (L1 + 1 + 1, o2) :: (L1 + 1, o3) :: g o') (c := c) (pts := pts) (fun i v => ∃ t, v = .int (((pts.getD i (0, #[])).2.size : Nat) : Int) t) lF lN X1 T1 (U2 ps2) ht2 rfl rfl (by ktr_room) (.tail _ (.tail _ (.tail _ (.tail _ (hc _))))) hoc hlen (hs2 _) rfl ?_ ?_
      · intro cv D A' E' i q y dd t0 t1 t m₂ hA hD hU hq hns hm hx1 X2 T2 hkeep
        have hz16 : q.2.size ≤ 16 := Nat.le_trans (hp q (List.mem_of_getElem? hq)).2 (by decide)
        refine el_len hA ?_ ?_ X2 T2 rfl rfl rfl rfl (fun Q E h => wpAny_Name (wpAny_loadName_local rfl rfl hns hm h)) hx1 hz16 fun t' s' k => ?_
        · exact depth_ok (show A'.depth ≤ dp + 2 from hD) hd4
        · exact units_ok hU hu25
        · exact ⟨⟨t', by simp [List.getD_eq_getElem?_getD, hq]⟩, k⟩
      clear lN lF
      intro K0 a4 h4 tk4 gs4 ps4 hLK hgb4 ht4 F4 N4 hK4 hz4 Xg
      dsimp only
      repeat' ((fail_if_success (with_reducible show wpAny _ _ (PySem.call (Value.type _) _) _ _ _)); first | (k_unfold; (try dsimp only)) | (k_end; wrow_close) | walk1 | (dsimp only; walk1) | (leave1; walk_say "STEP leave1"; try dsimp only) | fail "no step")
      have hfm2 := firstMet_map pts (fun q => ((q.2.size : Nat) : Int)) (0, #[])
      refine set_led F4 N4 hK4 hLK hz4 rfl Xg (val := fun i => ((pts.getD i (0, #[])).2.size : Nat)) (fun i v h => h) (scan_ok hn) fun S2 oS2 h5 gs5 tk5 hgb5 F5 N5 hS5 hso => ?_
      rw [hfm2] at hso
      have A5 : AllBare s.gens → AllBare gs5 := fun hb => hgb5 ((A3 hb).push hgb4)
      clear hgb5 Xg hK4 hz4 hLK F4 N4
      have hset2 : SetInts w oS2 (uniq (lensI pts)) := hso
      clear hso
      have hlen5 : (uniq (lensI pts)).length ≤ 16 := Nat.le_trans (uniq_le _) (by simpa [lensI] using hn)
      refine storeX_L F5 N5 fun h5b F5b N5b => hQ1 .next _ ?_
      clear hQ1 F5 N5
      try dsimp only
      repeat' ((fail_if_success (with_reducible show wpAny _ _ (exec _ _) _ _ _)); first | (k_unfold; (try dsimp only)) | (k_end; wrow_close) | walk1 | (dsimp only; walk1) | (leave1; walk_say "STEP leave1"; try dsimp only) | fail "no step")
      refine cut_here fun Q1 hQ1 => ?_
      repeat' ((fail_if_success (with_reducible show wpAny _ _ (PySem.call (Value.builtin _) _) _ _ _)); first | (k_unfold; (try dsimp only)) | (k_end; wrow_close) | walk1 | (dsimp only; walk1) | (leave1; walk_say "STEP leave1"; try dsimp only) | fail "no step")
      rename News _ _ _ _ => lN
      rename Fr _ _ _ _ => lF
      refine kse_len lN (.head hS5) hset2 (small63 hlen5) ?_
      repeat' ((fail_if_success (with_reducible show wpAny _ _ (compareOp _ _ _) _ _ _)); first | (k_unfold; (try dsimp only)) | (k_end; wrow_close) | walk1 | (dsimp only; walk1) | (leave1; walk_say "STEP leave1"; try dsimp only) | fail "no step")
      refine PySem.P.ne_int ?_
      repeat' ((fail_if_success (with_reducible show wpAny _ _ (truthy _) _ _ _)); first | (k_unfold; (try dsimp only)) | (k_end; wrow_close) | walk1 | (dsimp only; walk1) | (leave1; walk_say "STEP leave1"; try dsimp only) | fail "no step")
      refine wpAny_truthy_bool ?_
      dsimp only
      by_cases hu2 : (uniq (lensI pts)).length = 1
      case neg =>
        rw [if_pos (show (((uniq (lensI pts)).length : Nat) : Int) != 1 from bne_lt hu2)]
        obtain ⟨nid, bm, hq, iid, FB⟩ := exc_in w
        refine wpAny_execs_cons ?_
        refine Raise_ownX (he := by rfl) (hplain := by rfl) (hk := by rfl) (hx := by rfl) (hd := by decide) lF X1 (topRead_of T1) (exc_name w) hq FB rfl ?_
        refine args_cons ?_
        repeat' ((fail_if_success (with_reducible show wpAny _ _ (spliced _) _ _ _)); first | (k_unfold; (try dsimp only)) | (k_end; wrow_close) | walk1 | (dsimp only; walk1) | (leave1; walk_say "STEP leave1"; try dsimp only) | fail "no step")
        refine args_nil ?_
        refine ⟨by size_fits, lF.keep, fun h9 e9 hx9 => ?_⟩
        refine leave_raiseX B1 hx9 lF lN (fun h8 t8 R8 U8 => ?_) rfl rfl
        exact hexc (by unfold ipN; rw [if_neg (by simpa using hu1), if_pos hu2]) e9 t8 _ g1 _ _ _ ps4 A5 ht4 FG U8 (raisedK_mono R8 fun q hq => .tail _ (.tail _ (.tail _ (.tail _ (.tail _ hq)))))
      case pos =>
        rw [if_neg (by rw [show ((((uniq (lensI pts)).length : Nat) : Int) != 1) = false from bne_eq hu2]; decide)]
        refine wpAny_execs_nil (hQ1 .next _ ?_)
        clear hQ1
        try dsimp only
        repeat' ((fail_if_success (with_reducible show wpAny _ _ (exec _ _) _ _ _)); first | (k_unfold; (try dsimp only)) | (k_end; wrow_close) | walk1 | (dsimp only; walk1) | (leave1; walk_say "STEP leave1"; try dsimp only) | fail "no step")
        refine cut_here fun Q1 hQ1 => ?_
        repeat' ((fail_if_success (with_reducible show wpAny _ _ (compareOp _ _ _) _ _ _)); first | (k_unfold; (try dsimp only)) | (k_end; wrow_close) | walk1 | (dsimp only; walk1) | (leave1; walk_say "STEP leave1"; try dsimp only) | fail "no step")
        have hS3' : ∀ o, ∀ q ∈ ((L1 + 1 + 1 + 1, o1) :: (L1 + 1 + 1, o2) :: (L1 + 1, o3) :: g o), q.1 ≠ S := fun o => apart_map (by simp only [List.map_cons, hadr (tabObj ps2) o]) hS3
        have hSS : S ≠ S2 := hS5 (S, oS) (.head _)
        have hS5' : ∀ o, ∀ q ∈ ((S, oS) :: (L1 + 1 + 1 + 1, o1) :: (L1 + 1 + 1, o2) :: (L1 + 1, o3) :: g o), q.1 ≠ S2 := fun o => apart_map (by simp only [List.map_cons, hadr (tabObj ps4) o]) hS5
        clear hS3 hS5
        refine kse_in lN (.tail (Ne.symm hSS) (.head (hS3' _))) hset (Nat.lt_of_succ_lt (scan_ok hlen3)) (intKind_is _ _ _ _) rfl ?_
        repeat' ((fail_if_success (with_reducible show wpAny _ _ (truthy _) _ _ _)); first | (k_unfold; (try dsimp only)) | (k_end; wrow_close) | walk1 | (dsimp only; walk1) | (leave1; walk_say "STEP leave1"; try dsimp only) | fail "no step")
        refine wpAny_truthy_bool ?_
        dsimp only
        rw [xs_any]
        cases hin : pts.any (fun q => q.1 == x0) with
        | true =>
          rw [if_pos rfl]
          refine wpAny_execs_cons ?_
          have hmc : ∀ o5, (c, oc) ∈ ((S2, oS2) :: (S, oS) :: (L1 + 1 + 1 + 1, o5) :: (L1 + 1 + 1, o2) :: (L1 + 1, o3) :: g (tabObj ps4)) := fun o5 => .tail _ (.tail _ (.tail _ (.tail _ (.tail _ (hc _)))))
          refine forN (hs := by intro _; rfl) (hE := by passes_own) (l := c) (vs := vs) (adr := ((S2, oS2) :: (S, oS) :: (L1 + 1 + 1 + 1, o1) :: (L1 + 1 + 1, o2) :: (L1 + 1, o3) :: g (tabObj ps4)).map (·.1))
            (fun i m nx gx dx => gx = gs5 ∧ dx = s.drawn ∧ (∀ j q, j < i → pts[j]? = some q → q.1 ≠ x0) ∧ m (Str.ofString "shares") = some (.ref c) ∧ ∃ o5 v5, o5.data = .cell v5 ∧ nx = (S2, oS2) :: (S, oS) :: (L1 + 1 + 1 + 1, o5) :: (L1 + 1 + 1, o2) :: (L1 + 1, o3) :: g (tabObj ps4)) lF rfl ?_ ?_ ?_ ?_
          · rintro i m nx gx dx ⟨_, _, _, _, o5, v5, _, rfl⟩
            exact ⟨rfl, fun h _ N => hoc.at (N (c, oc) (hmc _)).1⟩
          · refine nameX_L lF (v := .ref c) rfl ⟨rfl, rfl, _, _, lF, lN, rfl, rfl, nofun, rfl, o1, _, e1, rfl⟩
          · clear lF lN
            rintro i v m₁ nx I oI s₁ hv ⟨hg1, hd1, hno, hms, o5, v5, ho5, rfl⟩ hos hne F₁ N₁
            have hi : i < pts.length := by
              exact hlen ▸ (List.getElem?_eq_some_iff.mp hv).1
            obtain ⟨hp1, gg1, dd1, tt1, oo1⟩ := s₁
            dsimp only at hg1 hd1 hos F₁ N₁ ⊢
            subst hg1 hd1 hos
            refine storeX_C F₁ N₁ (c := L1 + 1 + 1 + 1) (o := o5) rfl (.tail (Ne.symm (hne (L1 + 1 + 1 + 1, o5) (.tail _ (.tail _ (.head _))))) (.tail (Ne.symm (hS5' (tabObj ps4) (L1 + 1 + 1 + 1, o1) (.tail _ (.head _)))) (.tail (Ne.symm (hS3' (tabObj ps4) (L1 + 1 + 1 + 1, o1) (.head _))) (.head (hL3 _ _ _))))) ho5 ?_
            intro h6 o6 F₂ N₂ ho6
            dsimp only
            obtain ⟨y, dd, t0, t1, rfl, hmem⟩ := hsh (tabObj ps4) i v pts[i] hv (by simp [hi])
            have hd3 : ((ktrTop dp un gd cn cs L a ccd cl outer).deeper (envX (Str.ofString "_interpolate") cs L1 161 (Value.ref 160) cl)).depth + 2 < recursionLimit := room (c := 3) hd9 (by decide)
            have hmy : ∀ o5, (y, shareObj dd (.int (pts[i].1 : Nat) t0) (.bytes pts[i].2 t1) 0) ∈ ((I, oI) :: (S2, oS2) :: (S, oS) :: (L1 + 1 + 1 + 1, o5) :: (L1 + 1 + 1, o2) :: (L1 + 1, o3) :: g (tabObj ps4)) := fun o5 => .tail _ (.tail _ (.tail _ (.tail _ (.tail _ (.tail _ hmem)))))
            have hmo : ∀ o5, (L1 + 1 + 1 + 1, o5) ∈ ((I, oI) :: (S2, oS2) :: (S, oS) :: (L1 + 1 + 1 + 1, o5) :: (L1 + 1 + 1, o2) :: (L1 + 1, o3) :: g (tabObj ps4)) := fun o5 => .tail _ (.tail _ (.tail _ (.head _)))
            repeat' ((fail_if_success (with_reducible show wpAny _ _ (eval (Expr.Attribute _ _ _) _) _ _ _)); first | (k_unfold; (try dsimp only)) | (k_end; wrow_close) | walk1 | (dsimp only; walk1) | (leave1; walk_say "STEP leave1"; try dsimp only) | fail "no step")
            refine el_attr (i := 0) (.inl ⟨rfl, rfl⟩) rfl hd3 hu17 (X1.keeps F₂.keep) (T1.keeps F₂.keep) (fun Q E h => nameX_C N₂ (c := L1 + 1 + 1 + 1) rfl (hmo _) ho6 h) (N₂ _ (hmy _)).1 rfl fun s2 k2 => ?_
            have F₃ := fr_keeps F₂ k2
            have N₃ := news_keeps N₂ k2
            obtain ⟨h7, tk7, rfl, _⟩ := k2
            clear F₂ N₂
            repeat' ((fail_if_success (with_reducible show wpAny _ _ (compareOp _ _ _) _ _ _)); first | (k_unfold; (try dsimp only)) | (k_end; wrow_close) | walk1 | (dsimp only; walk1) | (leave1; walk_say "STEP leave1"; try dsimp only) | fail "no step")
            refine PySem.P.eq_int ?_
            repeat' ((fail_if_success (with_reducible show wpAny _ _ (truthy _) _ _ _)); first | (k_unfold; (try dsimp only)) | (k_end; wrow_close) | walk1 | (dsimp only; walk1) | (leave1; walk_say "STEP leave1"; try dsimp only) | fail "no step")
            refine wpAny_truthy_bool ?_
            dsimp only
            by_cases hq : pts[i].1 = x0
            · rw [if_pos (by simp [hq])]
              repeat' ((fail_if_success (with_reducible show wpAny _ _ (eval (Expr.Attribute _ _ _) _) _ _ _)); first | (k_unfold; (try dsimp only)) | (k_end; wrow_close) | walk1 | (dsimp only; walk1) | (leave1; walk_say "STEP leave1"; try dsimp only) | fail "no step")
              refine el_attr (i := 1) (.inr ⟨rfl, rfl⟩) rfl hd3 hu17 (X1.keeps F₃.keep) (T1.keeps F₃.keep) (fun Q E h => nameX_C N₃ (c := L1 + 1 + 1 + 1) rfl (hmo _) ho6 h) (N₃ _ (hmy _)).1 rfl fun s2 k2 => ?_
              have F₄ := fr_keeps F₃ k2
              have N₄ := news_keeps N₃ k2
              obtain ⟨h8, tk8, rfl, _⟩ := k2
              clear F₃ N₃
              dsimp only at F₄ N₄ ⊢
              rw [if_neg (by decide : ¬ (1 : Int) = 0)]
              unfold ForPost
              try dsimp only
              refine hQ1 (.ret _) _ ?_
              show LeaveK h₀ L m g1 _ (.bytes pts[i].2 t1) _
              refine ⟨_, _, _, F₄, N₄, fun F9 N9 => ?_⟩
              refine hret pts[i].2 ?_ t1 h8 _ _ tk8 ps4 A5 ht4 F9 fun q hq => N9 q (.tail _ (.tail _ (.tail _ (.tail _ (.tail _ (.tail _ hq))))))
              unfold ipN
              rw [if_neg (by simpa using hu1), if_neg (by simpa using hu2), find_first pts i hi hno hq]
            · rw [if_neg (by rw [beq_iff_eq]; exact fun q => hq (Int.ofNat_inj.mp q))]
              k_steps
              refine ForPost.next rfl (by assumption) (by assumption) ⟨rfl, rfl, fun j q hj hjq => ?_, ?_, o6, _, ho6, rfl⟩
              · rcases Nat.lt_succ_iff_lt_or_eq.mp hj with hj | rfl
                · exact hno j q hj hjq
                · rw [List.getElem?_eq_getElem hi] at hjq
                  cases hjq; exact hq
              · exact hms
          · rintro m nx s₁ ⟨_, _, hno, _⟩
            exfalso
            obtain ⟨q, hq, e⟩ := List.any_eq_true.mp hin
            obtain ⟨j, hj, rfl⟩ := List.getElem_of_mem hq
            exact hno j pts[j] (hlen ▸ hj) (by simp [hj]) (beq_iff_eq.mp e)
        | false =>
          rw [if_neg (by simp)]
          refine wpAny_execs_nil (hQ1 .next _ ?_)
          clear hQ1
          try dsimp only
          repeat' ((fail_if_success (with_reducible show wpAny _ _ (exec _ _) _ _ _)); first | (k_unfold; (try dsimp only)) | (k_end; wrow_close) | walk1 | (dsimp only; walk1) | (leave1; walk_say "STEP leave1"; try dsimp only) | fail "no step")
          refine cut_here fun Q1 hQ1 => ?_
          repeat' ((fail_if_success (with_reducible show wpAny _ _ (eval (Expr.GeneratorExp _ _ _ _) _) _ _ _)); first | (k_unfold; (try dsimp only)) | (k_end; wrow_close) | walk1 | (dsimp only; walk1) | (leave1; walk_say "STEP leave1"; try dsimp only) | fail "no step")
          have hS2156 : S2 ≠ 156 := Ne.symm (hS5' (tabObj ps4) (156, tabObj ps4) (.tail _ (.tail _ (.tail _ (.tail _ (mem_g (U ps4)))))))
          have U4 : ∀ ps, UpdF 156 (tabObj ps) ((S2, oS2) :: (S, oS) :: (L1 + 1 + 1 + 1, o1) :: (L1 + 1 + 1, o2) :: (L1 + 1, o3) :: g (tabObj ps)) (fun o' => (S2, oS2) :: (S, oS) :: (L1 + 1 + 1 + 1, o1) :: (L1 + 1 + 1, o2) :: (L1 + 1, o3) :: g o') := fun ps => .tail hS2156 (U2 ps)
          have hs4 : ∀ o (i : Nat) v q, vs[i]? = some v → pts[i]? = some q → ShareAt ((S2, oS2) :: (S, oS) :: (L1 + 1 + 1 + 1, o1) :: (L1 + 1 + 1, o2) :: (L1 + 1, o3) :: g o) v q := fun o i v q h1 h2 => share_tail (hs2 o i v q h1 h2)
          refine gen_shares (hs := by intro _; rfl) (hk := by rfl) (hkx := by rfl) (hco := by rfl) (hcell := by decide) (h0 := by rfl) (hx := by rfl) (hkind := by rfl) (ps := ps4) (gg := fun o' => (S2, oS2) :: (S, oS) :: (L1 + 1 + 1 + 1, o1) :: (L1 + 1 + 1, o2) :: (L1 + 1, o3) :: g o') (c := c) (pts := pts) (fun i v => ∃ t, v = .int ((pts.map fun q => ((logN (q.1 ^^^ x0) : Nat) : Int)).getD i 0) t) lF lN X1 T1 (U4 ps4) ht4 rfl rfl (by ktr_room) (.tail _ (.tail _ (.tail _ (.tail _ (.tail _ (hc _)))))) hoc hlen (hs4 _) rfl ?_ ?_
          · intro cv D A' E' i q y dd t0 t1 t m₂ hA hD hU hq hns hm hx1 X2 T2 hkeep
            refine el_log (y := x0) hA ?_ ?_ X2 T2 rfl rfl rfl (fun s' Q E k h => wpAny_Name (wpAny_loadName_local rfl rfl (hns.keeps fun _ _ e => keeps_heap k e) hm h)) hx1 (hp q (List.mem_of_getElem? hq)).1 hx
              (fun s' Q E k h => wpAny_Name (wpAny_loadName_free rfl rfl (c := L1 + 1) rfl ⟨o3, keeps_heap k (hkeep (L1 + 1) o3 (ne1 1) (lN (L1 + 1, o3) (.tail _ (.tail _ (.tail _ (.tail _ (.head _)))))).1), e3⟩ (h tx s' k))) fun t' s' k => ?_
            · exact depth_ok (show A'.depth ≤ dp + 2 from hD) hd4
            · exact units_ok hU hu25
            · exact ⟨⟨t', by simp [List.getD_eq_getElem?_getD, hq]⟩, k⟩
          clear lN lF
          intro K0 a6 h6 tk6 gs6 ps6 hLK hgb6 ht6 F6 N6 hK6 hz6 Xg
          dsimp only
          repeat' ((fail_if_success (with_reducible show wpAny _ _ (PySem.call (Value.builtin _) _) _ _ _)); first | (k_unfold; (try dsimp only)) | (k_end; wrow_close) | walk1 | (dsimp only; walk1) | (leave1; walk_say "STEP leave1"; try dsimp only) | fail "no step")
          refine sum_led F6 N6 hK6 hLK Xg (val := fun i => (pts.map fun q => ((logN (q.1 ^^^ x0) : Nat) : Int)).getD i 0) (fun i v h => h) fun h7 gs7 tk7 tS hgb7 F7 N7 => ?_
          have hps := preSum_getD (pts.map fun q => ((logN (q.1 ^^^ x0) : Nat) : Int)) pts.length
          rw [List.take_of_length_le (by simp)] at hps
          rw [hps]
          have A7 : AllBare s.gens → AllBare gs7 := fun hb => hgb7 ((A5 hb).push hgb6)
          clear hgb7 Xg hK6 hz6 hLK F6 N6
          refine storeX_L F7 N7 fun h7b F7b N7b => hQ1 .next _ ?_
          clear hQ1 F7 N7
          try dsimp only
          repeat' ((fail_if_success (with_reducible show wpAny _ _ (exec _ _) _ _ _)); first | (k_unfold; (try dsimp only)) | (k_end; wrow_close) | walk1 | (dsimp only; walk1) | (leave1; walk_say "STEP leave1"; try dsimp only) | fail "no step")
          refine cut_here fun Q1 hQ1 => ?_
          repeat' ((fail_if_success (with_reducible show wpAny _ _ (getMethod _ _ _) _ _ _)); first | (k_unfold; (try dsimp only)) | (k_end; wrow_close) | walk1 | (dsimp only; walk1) | (leave1; walk_say "STEP leave1"; try dsimp only) | fail "no step")
          rename News _ _ _ _ => lN
          rename Fr _ _ _ _ => lF
          obtain ⟨z, huz, hz, qz, hqz, hqz2⟩ := lens_one hu2
          have hz16 : z ≤ 4 := hqz2 ▸ (hp qz hqz).2
          have hset1 : oS2.SetObjOf (intKind PySem.Challenge.rw_jb0038_01.row.prog w) (fun k => ([(z : Int)]).any (· == k)) 1 := by have := hset2; unfold SetInts at this; rw [huz] at this; exact this
          have hSO := hset1.setOf (lN (S2, oS2) (.head _)).1 (by decide)
          refine getMethod_builtin hSO.typeIs PySem.F.plainAttrs_set PySem.F.slot_set_pop PySem.F.type_set_pop hSO.noDict ?_
          repeat' ((fail_if_success (with_reducible show wpAny _ _ (PySem.call (Value.builtin _) _) _ _ _)); first | (k_unfold; (try dsimp only)) | (k_end; wrow_close) | walk1 | (dsimp only; walk1) | (leave1; walk_say "STEP leave1"; try dsimp only) | fail "no step")
          refine set_pop (lN (S2, oS2) (.head _)).1 hset1 (n := (z : Int)) (by simp) fun tz h8 oS3 dr hsb hoS3 => ?_
          have lF8 := lF.change hsb (lN (S2, oS2) (.head _)).2.1 (lN (S2, oS2) (.head _)).2.2
          have lN8 := News.setIn (own := []) lN (fun _ hp => nomatch hp) (hS5' (tabObj ps6)) hsb hoS3
          clear lN lF hsb
          dsimp only [List.nil_append] at lF8 lN8 ⊢
          repeat' ((fail_if_success (with_reducible show wpAny _ _ (PySem.call (Value.type _) _) _ _ _)); first | (k_unfold; (try dsimp only)) | (k_end; wrow_close) | walk1 | (dsimp only; walk1) | (leave1; walk_say "STEP leave1"; try dsimp only) | fail "no step")
          refine call_bytes_int hz16 fun tb kb => ?_
          refine storeX_L lF8 lN8 fun h8b F8b N8b => hQ1 .next _ ?_
          clear hQ1 lF8 lN8
          try dsimp only
          repeat' ((fail_if_success (with_reducible show wpAny _ _ (exec _ _) _ _ _)); first | (k_unfold; (try dsimp only)) | (k_end; wrow_close) | walk1 | (dsimp only; walk1) | (leave1; walk_say "STEP leave1"; try dsimp only) | fail "no step")
          refine cut_here fun Q1 hQ1 => ?_
          rename News _ _ _ _ => lN
          rename Fr _ _ _ _ => lF
          have e6a : (fun y => (g y).map (·.1)) = fun _ => (g (tabObj ps6)).map (·.1) := funext fun y => hadr _ _
          have hmc : ∀ ps' o5 o6, (c, oc) ∈ ((S2, oS3) :: (S, oS) :: (L1 + 1 + 1 + 1, o5) :: (L1 + 1 + 1, o6) :: (L1 + 1, o3) :: g (tabObj ps')) := fun ps' o5 o6 => .tail _ (.tail _ (.tail _ (.tail _ (.tail _ (hc _)))))
          refine forN (hs := by intro _; rfl) (hE := by passes_own) (l := c) (vs := vs) (adr := ((S2, oS3) :: (S, oS) :: (L1 + 1 + 1 + 1, o1) :: (L1 + 1 + 1, o2) :: (L1 + 1, o3) :: g (tabObj ps6)).map (·.1))
            (fun i m nx gx dx => (AllBare s.gens → AllBare gx) ∧ m (Str.ofString "shares") = some (.ref c) ∧ m (Str.ofString "log_prod") = some (.int (pts.map fun q => ((logN (q.1 ^^^ x0) : Nat) : Int)).sum tS) ∧ (∃ tr, m (Str.ofString "result") = some (.bytes (bytesN (lpN pts x0 z i)) tr)) ∧
              ∃ ps' o5 v5 o6 v6, TriplesOk ps'.toList ∧ o5.data = .cell v5 ∧ o6.data = .cell v6 ∧ nx = (S2, oS3) :: (S, oS) :: (L1 + 1 + 1 + 1, o5) :: (L1 + 1 + 1, o6) :: (L1 + 1, o3) :: g (tabObj ps')) lF rfl ?_ ?_ ?_ ?_
          · rintro i m nx gx dx ⟨_, _, _, _, ps', o5, v5, o6, v6, _, _, _, rfl⟩
            exact ⟨by simp only [List.map_cons, hadr (tabObj ps') (tabObj ps6)], fun h _ N => hoc.at (N (c, oc) (hmc _ _ _)).1⟩
          · refine nameX_L lF (v := .ref c) rfl ⟨rfl, rfl, _, _, lF, lN, A7, rfl, rfl, ⟨tb, ?_⟩, ps6, o1, _, o2, _, ht6, e1, e2, rfl⟩
            show some (Value.bytes (Array.replicate z 0) tb) = _
            rw [show lpN pts x0 z 0 = List.replicate z 0 from rfl, bytesN_zero]
          · clear lF lN
            rintro i v m₁ nx I oI s₁ hv ⟨hgb, hms, hml, ⟨tr, hmr⟩, ps8, o5, v5, o6, v6, ht8, ho5, ho6, rfl⟩ hos hne F₁ N₁
            have hi : i < pts.length := by
              exact hlen ▸ (List.getElem?_eq_some_iff.mp hv).1
            obtain ⟨hp1, gg1, dd1, tt1, oo1⟩ := s₁
            dsimp only at hgb hos F₁ N₁ ⊢
            subst hos
            have hI : ∀ ps' o5 o6, ∀ q ∈ ((S2, oS3) :: (S, oS) :: (L1 + 1 + 1 + 1, o5) :: (L1 + 1 + 1, o6) :: (L1 + 1, o3) :: g (tabObj ps')), q.1 ≠ I := fun ps' o5' o6' => apart_map (by simp only [List.map_cons, hadr (tabObj ps8) (tabObj ps')]) hne
            have hS3'' : ∀ o o5 o6, ∀ q ∈ ((L1 + 1 + 1 + 1, o5) :: (L1 + 1 + 1, o6) :: (L1 + 1, o3) :: g o), q.1 ≠ S := fun o o5 o6 => apart_map (by simp only [List.map_cons]) (hS3' o)
            have hS5'' : ∀ o o5 o6, ∀ q ∈ ((S, oS) :: (L1 + 1 + 1 + 1, o5) :: (L1 + 1 + 1, o6) :: (L1 + 1, o3) :: g o), q.1 ≠ S2 := fun o o5 o6 => apart_map (by simp only [List.map_cons]) (hS5' o)
            refine storeX_C F₁ N₁ (c := L1 + 1 + 1 + 1) (o := o5) rfl (.tail (Ne.symm (hI ps8 o5 o6 (L1 + 1 + 1 + 1, o5) (.tail _ (.tail _ (.head _))))) (.tail (Ne.symm (hS5'' (tabObj ps8) o5 o6 (L1 + 1 + 1 + 1, o5) (.tail _ (.head _)))) (.tail (Ne.symm (hS3'' (tabObj ps8) o5 o6 (L1 + 1 + 1 + 1, o5) (.head _))) (.head (hL3 _ _ _))))) ho5 ?_
            intro h9 o7 F₂ N₂ ho7
            dsimp only
            have em : m₁ = fun y => if y = Str.ofString "log_prod" then some (.int (pts.map fun q => ((logN (q.1 ^^^ x0) : Nat) : Int)).sum tS) else if y = Str.ofString "result" then some (.bytes (bytesN (lpN pts x0 z i)) tr) else if y = Str.ofString "shares" then some (.ref c) else m₁ y := by
              funext y
              split
              · subst y; exact hml
              · split
                · subst y; exact hmr
                · split
                  · subst y; exact hms
                  · rfl
            rw [em] at F₂
            obtain ⟨y, dd, t0, t1, rfl, -⟩ := hsh (tabObj ps8) i v pts[i] hv (by simp [hi])
            have hmy : ∀ ps' o5 o6, ∃ dd t0 t1, (y, shareObj dd (.int (pts[i].1 : Nat) t0) (.bytes pts[i].2 t1) 0) ∈ ((I, oI) :: (S2, oS3) :: (S, oS) :: (L1 + 1 + 1 + 1, o5) :: (L1 + 1 + 1, o6) :: (L1 + 1, o3) :: g (tabObj ps')) := fun ps' o5 o6 => by
              obtain ⟨y2, dd, t0, t1, e, hmem⟩ := hsh (tabObj ps') i _ pts[i] hv (by simp [hi])
              cases e
              exact ⟨dd, t0, t1, .tail _ (.tail _ (.tail _ (.tail _ (.tail _ (.tail _ hmem)))))⟩
            have hmo : ∀ ps' o5 o6, (L1 + 1 + 1 + 1, o5) ∈ ((I, oI) :: (S2, oS3) :: (S, oS) :: (L1 + 1 + 1 + 1, o5) :: (L1 + 1 + 1, o6) :: (L1 + 1, o3) :: g (tabObj ps')) := fun ps' o5 o6 => .tail _ (.tail _ (.tail _ (.head _)))
            have hmx : ∀ ps' o5 o6, (L1 + 1, o3) ∈ ((I, oI) :: (S2, oS3) :: (S, oS) :: (L1 + 1 + 1 + 1, o5) :: (L1 + 1 + 1, o6) :: (L1 + 1, o3) :: g (tabObj ps')) := fun ps' o5 o6 => .tail _ (.tail _ (.tail _ (.tail _ (.tail _ (.head _)))))
            have hd3 : ((ktrTop dp un gd cn cs L a ccd cl outer).deeper (envX (Str.ofString "_interpolate") cs L1 161 (Value.ref 160) cl)).depth + 2 < recursionLimit := room (c := 3) hd9 (by decide)
            obtain ⟨dd1, t01, t11, hy1⟩ := hmy ps8 o7 o6
            repeat' ((fail_if_success (with_reducible show wpAny _ _ (exec _ _) _ _ _)); first | (k_unfold; (try dsimp only)) | (k_end; wrow_close) | walk1 | (dsimp only; walk1) | (leave1; walk_say "STEP leave1"; try dsimp only) | fail "no step")
            refine cut_here fun Q2 hQ2 => ?_
            repeat' ((fail_if_success (with_reducible show wpAny _ _ (eval (Expr.Subscript _ _ _) _) _ _ _)); first | (k_unfold; (try dsimp only)) | (k_end; wrow_close) | walk1 | (dsimp only; walk1) | (leave1; walk_say "STEP leave1"; try dsimp only) | fail "no step")
            refine el_log (y := x0) rfl hd3 hu17 (X1.keeps F₂.keep) (T1.keeps F₂.keep) rfl rfl rfl (fun s' Q E k h => nameX_C (news_keeps N₂ k) (c := L1 + 1 + 1 + 1) rfl (hmo _ _ _) ho7 h) (N₂ _ hy1).1 (hp _ (List.getElem_mem hi)).1 hx
              (fun s' Q E k h => nameX_C (news_keeps N₂ k) (c := L1 + 1) rfl (hmx _ _ _) e3 (h tx s' k)) fun tl s2 k2 => ?_
            have F₃ := fr_keeps F₂ k2
            have N₃ := news_keeps N₂ k2
            obtain ⟨h10, tk10, rfl, _⟩ := k2
            clear F₂ N₂
            repeat' ((fail_if_success (with_reducible show wpAny _ _ (eval (Expr.GeneratorExp _ _ _ _) _) _ _ _)); first | (k_unfold; (try dsimp only)) | (k_end; wrow_close) | walk1 | (dsimp only; walk1) | (leave1; walk_say "STEP leave1"; try dsimp only) | fail "no step")
            dsimp only at F₃ N₃ ⊢
            have hI156 : I ≠ 156 := Ne.symm (hI ps8 o5 o6 (156, tabObj ps8) (.tail _ (.tail _ (.tail _ (.tail _ (.tail _ (mem_g (U ps8))))))))
            have U8 : ∀ o7 o6 ps, UpdF 156 (tabObj ps) ((I, oI) :: (S2, oS3) :: (S, oS) :: (L1 + 1 + 1 + 1, o7) :: (L1 + 1 + 1, o6) :: (L1 + 1, o3) :: g (tabObj ps)) (fun o' => (I, oI) :: (S2, oS3) :: (S, oS) :: (L1 + 1 + 1 + 1, o7) :: (L1 + 1 + 1, o6) :: (L1 + 1, o3) :: g o') := fun o7 o6 ps => .tail hI156 (.tail hS2156 (.tail hS156 (.tail (ne1 3) (.tail (ne1 2) (.tail (ne1 1) (U ps))))))
            have hs8 : ∀ o7 o6 o (j : Nat) v q, vs[j]? = some v → pts[j]? = some q → ShareAt ((I, oI) :: (S2, oS3) :: (S, oS) :: (L1 + 1 + 1 + 1, o7) :: (L1 + 1 + 1, o6) :: (L1 + 1, o3) :: g o) v q := fun o7 o6 o j v q h1 h2 => share_tail (share_tail (share_tail (share_tail (share_tail (share_tail (hsh o j v q h1 h2))))))
            have m8 : ∀ o7 o6 ps, (156, tabObj ps) ∈ ((I, oI) :: (S2, oS3) :: (S, oS) :: (L1 + 1 + 1 + 1, o7) :: (L1 + 1 + 1, o6) :: (L1 + 1, o3) :: g (tabObj ps)) := fun o7 o6 ps => .tail _ (.tail _ (.tail _ (.tail _ (.tail _ (.tail _ (mem_g (U ps)))))))
            refine gen_shares (hs := by intro _; rfl) (hk := by rfl) (hkx := by rfl) (hco := by rfl) (hcell := by decide) (h0 := by rfl) (hx := by rfl) (hkind := by rfl) (ps := ps8) (gg := fun o' => (I, oI) :: (S2, oS3) :: (S, oS) :: (L1 + 1 + 1 + 1, o7) :: (L1 + 1 + 1, o6) :: (L1 + 1, o3) :: g o') (c := c) (pts := pts) (fun j v => ∃ t, v = .int ((pts.map fun q => ((logN (pts[i].1 ^^^ q.1) : Nat) : Int)).getD j 0) t) F₃ N₃ X1 T1 (U8 _ _ ps8) ht8 rfl rfl (by ktr_room) (.tail _ (.tail _ (.tail _ (.tail _ (.tail _ (.tail _ (hc _))))))) hoc hlen (hs8 _ _ _) rfl ?_ ?_
            · intro cv D A' E' j q y' dd t0 t1 t m₂ hA hD hU hq hns hm hx1 X2 T2 hkeep
              refine el_log (y := q.1) hA (depth_ok (show A'.depth ≤ dp + 2 from hD) hd4) (units_ok hU hu25) X2 T2 rfl rfl rfl (fun s' Q E k h => wpAny_Name (wpAny_loadName_free rfl rfl (c := L1 + 1 + 1 + 1) rfl ⟨o7, keeps_heap k (hkeep _ o7 (ne1 3) (N₃ _ (hmo _ _ _)).1), ho7⟩ h)) (share_up N₃ (m8 _ _ _) hy1 hkeep) (hp _ (List.getElem_mem hi)).1 (hp q (List.mem_of_getElem? hq)).1
                (fun s' Q E k h => el_attr (i := 0) (.inl ⟨rfl, rfl⟩) hA (depth_ok (show A'.depth ≤ dp + 2 from hD) hd4) (units_ok hU hu25) (X2.keeps fun _ _ e => keeps_heap k e) (T2.keeps fun _ _ e => keeps_heap k e) (fun Q E h => wpAny_Name (wpAny_loadName_local rfl rfl (hns.keeps fun _ _ e => keeps_heap k e) hm h)) (keeps_heap k hx1) rfl fun s'' k2 => h t0 s'' (keeps_trans k k2)) fun t' s' k => ?_
              exact ⟨⟨t', by simp [List.getD_eq_getElem?_getD, hq]⟩, k⟩
            clear F₃ N₃
            intro K0 a11 h11 tk11 gs11 ps11 hLK hgb11 ht11 F11 N11 hK11 hz11 Xg
            dsimp only
            repeat' ((fail_if_success (with_reducible show wpAny _ _ (PySem.call (Value.builtin _) _) _ _ _)); first | (k_unfold; (try dsimp only)) | (k_end; wrow_close) | walk1 | (dsimp only; walk1) | (leave1; walk_say "STEP leave1"; try dsimp only) | fail "no step")
            refine sum_led F11 N11 hK11 hLK Xg (val := fun j => (pts.map fun q => ((logN (pts[i].1 ^^^ q.1) : Nat) : Int)).getD j 0) (fun j v h => h) fun h12 gs12 tk12 tS2 hgb12 F12 N12 => ?_
            have hps2 := preSum_getD (pts.map fun q => ((logN (pts[i].1 ^^^ q.1) : Nat) : Int)) pts.length
            rw [List.take_of_length_le (by simp)] at hps2
            rw [hps2]
            have A12 : AllBare s.gens → AllBare gs12 := fun hb => hgb12 ((hgb hb).push hgb11)
            clear hgb12 Xg hK11 hz11 hLK F11 N11
            repeat' ((fail_if_success (with_reducible show wpAny _ _ (binaryOp Operator.Mod _ _) _ _ _)); first | (k_unfold; (try dsimp only)) | (k_end; wrow_close) | walk1 | (dsimp only; walk1) | (leave1; walk_say "STEP leave1"; try dsimp only) | fail "no step")
            refine mod_int' (by decide) ?_
            rw [lbe_cast]
            dsimp only
            repeat' ((fail_if_success (with_reducible show wpAny _ _ (storeName _ _ _) _ _ _)); first | (k_unfold; (try dsimp only)) | (k_end; wrow_close) | walk1 | (dsimp only; walk1) | (leave1; walk_say "STEP leave1"; try dsimp only) | fail "no step")
            refine storeX_C F12 N12 (c := L1 + 1 + 1) (o := o6) rfl (.tail (Ne.symm (hI ps8 o5 o6 (L1 + 1 + 1, o6) (.tail _ (.tail _ (.tail _ (.head _)))))) (.tail (Ne.symm (hS5'' (tabObj ps8) o5 o6 (L1 + 1 + 1, o6) (.tail _ (.tail _ (.head _))))) (.tail (Ne.symm (hS3'' (tabObj ps8) o5 o6 (L1 + 1 + 1, o6) (.tail _ (.head _)))) (.tail (Ne.symm (hL3 (tabObj ps8) o6 o3 (L1 + 1 + 1, o6) (.head _))) (.head (hL2 _ _)))))) ho6 ?_
            intro h13 o8 F13 N13 ho8
            refine hQ2 .next _ ?_
            clear F12 N12 hQ2
            try dsimp only
            repeat' ((fail_if_success (with_reducible show wpAny _ _ (exec _ _) _ _ _)); first | (k_unfold; (try dsimp only)) | (k_end; wrow_close) | walk1 | (dsimp only; walk1) | (leave1; walk_say "STEP leave1"; try dsimp only) | fail "no step")
            refine cut_here fun Q2 hQ2 => ?_
            repeat' ((fail_if_success (with_reducible show wpAny _ _ (eval (Expr.GeneratorExp _ _ _ _) _) _ _ _)); first | (k_unfold; (try dsimp only)) | (k_end; wrow_close) | walk1 | (dsimp only; walk1) | (leave1; walk_say "STEP leave1"; try dsimp only) | fail "no step")
            refine gen_zb (hs := by intro _; rfl) (hab := by decide) (hco := by rfl) (hcell := by decide) (h0 := by rfl) (hxa := by rfl) (hxb := by rfl) (hkind := by rfl) (P := 156) (ps := ps11) (g := fun o' => (I, oI) :: (S2, oS3) :: (S, oS) :: (L1 + 1 + 1 + 1, o7) :: (L1 + 1 + 1, o8) :: (L1 + 1, o3) :: g o') F13 N13 T1 (codeHd_of X1 (ip_hd w) (by decide)) rfl (U8 _ _ ps11) ht11 rfl rfl (by ktr_room) ?_
            obtain ⟨dd2, t02, t12, hy2⟩ := hmy ps11 o7 o8
            repeat' ((fail_if_success (with_reducible show wpAny _ _ (eval (Expr.Attribute _ _ _) _) _ _ _)); first | (k_unfold; (try dsimp only)) | (k_end; wrow_close) | walk1 | (dsimp only; walk1) | (leave1; walk_say "STEP leave1"; try dsimp only) | fail "no step")
            refine el_attr (i := 1) (.inr ⟨rfl, rfl⟩) rfl hd3 hu17 (X1.keeps F13.keep) (T1.keeps F13.keep) (fun Q E h => nameX_C N13 (c := L1 + 1 + 1 + 1) rfl (hmo _ _ _) ho7 h) (N13 _ hy2).1 rfl fun s14 k14 => ?_
            rw [if_neg (by decide : ¬ (1 : Int) = 0)]
            have F14 := fr_keeps F13 k14
            have N14 := news_keeps N13 k14
            repeat' ((fail_if_success (with_reducible show wpAny _ _ (PySem.call (Value.type _) _) _ _ _)); first | (k_unfold; (try dsimp only)) | (k_end; wrow_close) | walk1 | (dsimp only; walk1) | (leave1; walk_say "STEP leave1"; try dsimp only) | fail "no step")
            refine call_zb fun h15 hzz hTI hTO hb1 hb2 hsz15 hk15 => ?_
            have hsi : pts[i].2.size = z := hz _ (List.getElem_mem hi)
            refine ⟨_, pts[i].2, t12, bytesN (lpN pts x0 z i), tr, z, (fun j v => ∃ t, v = .int ((byteStep (lbe pts x0 pts[i].1) ((pts[i].2.toList.map (·.toNat)).getD j 0) ((lpN pts x0 z i).getD j 0) : Nat) : Int) t), k14, hsi, by rw [bytesN_size, lpN_len hz i (Nat.le_of_lt hi)], rfl, ⟨h15, rfl, hzz, hTI, hTO, hb1, hb2, hsz15, hk15⟩, ?_, ?_⟩
            · intro cv D A' E' j cx dy t1' t2' t m₂ hA hD hU hcx hdy hns hma hmb hkeep
              have X2 := X1.keeps (up_of F13 N13 (m8 _ _ ps11) hkeep)
              have T2 := T1.keeps (up_of F13 N13 (m8 _ _ ps11) hkeep)
              refine el_byte (nv := Str.ofString "share_val") (ni := Str.ofString "intermediate_sum") (nl := Str.ofString "log_basis_eval") (v := cx.toNat) (i := dy.toNat) (l := lbe pts x0 pts[i].1) (tv := t1') (ti := t2') (tl := tk12 + 1 + 1) X2 T2 ?_ ?_ ?_ ?_ ?_ ?_ ?_ cx.toNat_lt ?_
              · rfl
              · rfl
              · rfl
              · rfl
              · exact fun s' p Q E k h => wpAny_Name (wpAny_loadName_local rfl rfl (hns.keeps fun _ _ e => keeps_heap k e) hma h)
              · exact fun s' p Q E k h => wpAny_Name (wpAny_loadName_local rfl rfl (hns.keeps fun _ _ e => keeps_heap k e) hmb h)
              · exact fun s' p Q E k h => wpAny_Name (wpAny_loadName_free rfl rfl (c := L1 + 1 + 1) rfl ⟨o8, keeps_heap k (hkeep _ o8 (ne1 2) (N13 (L1 + 1 + 1, o8) (.tail _ (.tail _ (.tail _ (.tail _ (.head _)))))).1), ho8⟩ h)
              · intro t' s' k
                refine ⟨⟨t', ?_⟩, k⟩
                rw [toList_at hcx, bytesN_at (lpN_lt i (Nat.le_of_lt hi)) hdy]
            · clear F14 N14 hzz hTI hTO hb1 hb2 hsz15 hk15
              intro K0 a16 gi16 h16 tk16 gs16 ps16 hLK hgb16 ht16 F16 N16 hK16 hz16' Xg hgen
              try dsimp only
              repeat' ((fail_if_success (with_reducible show wpAny _ _ (PySem.call (Value.type _) _) _ _ _)); first | (k_unfold; (try dsimp only)) | (k_end; wrow_close) | walk1 | (dsimp only; walk1) | (leave1; walk_say "STEP leave1"; try dsimp only) | fail "no step")
              refine bytes_led F16 N16 hK16 hLK hz16' Xg hgen (val := fun j => byteStep (lbe pts x0 pts[i].1) ((pts[i].2.toList.map (·.toNat)).getD j 0) ((lpN pts x0 z i).getD j 0)) (fun j v h => h) (fun j _ => byteStep_lt (getD_lt (lpN_lt i (Nat.le_of_lt hi)) j)) (Nat.le_trans hz16 (by decide +kernel)) fun h17 gs17 tk17 tb17 hgb17 F17 N17 => ?_
              rw [bytesV_step (by rw [List.length_map, Array.length_toList, hsi]) (lpN_len hz i (Nat.le_of_lt hi)), ← lpN_succ hi]
              have A17 : AllBare s.gens → AllBare gs17 := fun hb => hgb17 ((A12 hb).push hgb16)
              clear hgb17 Xg hK16 hz16' hLK F16 N16 F13 N13
              refine storeX_L F17 N17 fun h18 F18 N18 => hQ2 .next _ (wpAny_execs_nil ?_)
              refine ForPost.next rfl F18 N18 ⟨A17, rfl, rfl, ⟨tb17, rfl⟩, ps16, o7, _, o8, _, ht16, ho7, ho8, rfl⟩
          · rintro m₁ nx s₁ ⟨hgb, hms, hml, ⟨tr, hmr⟩, ps8, o5, v5, o6, v6, ht8, ho5, ho6, rfl⟩ hos F₁ N₁
            obtain ⟨hp1, gg1, dd1, tt1, oo1⟩ := s₁
            dsimp only at hgb hos F₁ N₁ ⊢
            subst hos
            have em : m₁ = fun y => if y = Str.ofString "result" then some (.bytes (bytesN (lpN pts x0 z vs.length)) tr) else m₁ y := by
              funext y
              split
              · subst y; exact hmr
              · rfl
            rw [em] at F₁
            refine hQ1 .next _ ?_
            try dsimp only
            k_steps
            rename News h₀ L _ _ => kN
            rename Fr h₀ L _ _ => kF
            refine hret _ ?_ tr _ _ _ _ ps8 hgb ht8 kF fun q hq => kN q (.tail _ (.tail _ (.tail _ (.tail _ (.tail _ hq)))))
            have hfn : pts.find? (fun q => q.1 == x0) = none := by
              rw [List.find?_eq_none]
              intro q hq
              have := List.any_eq_false.mp hin q hq
              simpa using this
            unfold ipN
            rw [if_neg (by simpa using hu1), if_neg (by simpa using hu2), hfn, huz]
            show some (bytesN (ipLoop pts x0 ((z : Nat) : Int).toNat)) = _
            rw [Int.toNat_natCast, hlen, lpN_all]
end
end Mine
end

-- part JX
section
open PySem PySem.W PySem.Calls PyProof.Rows
namespace Mine
set_option maxRecDepth 100000
set_option maxHeartbeats 1000000
set_option linter.unusedVariables false

section
variable {prog : Program} {w : World} {A : Around} {E : Value → Shared → Prop} {env : Env} {h₀ : Heap} {L : Addr} {m : Str → Option Value}

theorem dict_mapSeq (o : Obj) (f) : (o.mapSeq f).dict = o.dict := by
  obtain ⟨c, d, dt, sl⟩ := o; cases dt <;> rfl
theorem list_append_at {s : Shared} {E : Value → Shared → Prop} {l : Addr} {vs : List Value} {x : Value} {o : Obj} {Q : Value → Shared → Prop} (ho : s.heap.get? l = some o) (hl : IsListObj o vs) (hz : vs.length ≤ 4096)
    (h : ∀ h' o', Heap.SameBut l s.heap h' → h'.get? l = some o' → IsListObj o' (vs ++ [x]) → o'.dict = o.dict → Q .none { s with heap := h' }) :
    wpAny (model prog w) A (call (.builtin "list.append") [.ref l, x]) Q E s := by
  obtain ⟨hc, n, hd⟩ := id hl
  obtain ⟨n', hd'⟩ := Obj.data_mapSeq hd (·.push x)
  refine wpAny_call_entry slot_list_append (hl.at ho).typeIs entry_list_append ?_ (args_list_append _ _)
  show wpAny _ _ (updateSeq l (·.push x) >>= fun _ => ret .none) _ _ s
  refine wpAny_bind ?_
  refine wpAny_updateSeq ho hd (wpAny_pure ⟨.none, rfl, h _ _ (Heap.SameBut.update ..) (Heap.get?_update_self _ ho (Obj.isFreed_of_seq hd')) ⟨(Obj.cls_mapSeq ..).trans hc, n', ?_⟩ (dict_mapSeq _ _)⟩) (by rw [List.size_toArray]; exact Nat.le_trans hz (by decide +kernel)) ?_
  · rw [hd']; simp
  · rw [Array.size_push, List.size_toArray]; exact Nat.le_trans (Nat.succ_le_succ hz) (by decide +kernel)

/-- what holds between two elements of a comprehension -/
structure CompInv (n : Nat) (os : OsState) (J : Nat → List Value → List (Addr × Obj) → Array GenState → Drawn → Prop) (h₀ : Heap) (L : Addr) (m : Str → Option Value) (C D I : Addr) (St : Nat → Heap → Prop) (i : Nat) (ys : List Value) (nx : List (Addr × Obj)) (oc od oI' : Obj) (t : Shared) : Prop where
  hi : i ≤ n
  os : t.os = os
  J : J i ys nx t.gens t.drawn
  F : Fr h₀ L t.heap m
  N : News h₀ L t.heap ((C, oc) :: (D, od) :: (I, oI') :: nx)
  ap : ∀ p ∈ nx, p.1 ≠ C ∧ p.1 ≠ D ∧ p.1 ≠ I
  lo : IsListObj od ys
  dn : od.dict = none
  len : ys.length = i
  ns : ∃ mc, t.heap.Ns C mc
  st : St i t.heap
/-- what an element of a comprehension leaves -/
inductive ElPost (J : Nat → List Value → List (Addr × Obj) → Array GenState → Drawn → Prop) (h₀ : Heap) (L : Addr) (m : Str → Option Value) (os : OsState) (fp : List Addr) (C D I : Addr) (i : Nat) (ys : List Value) (oc od oI' : Obj) (h : Heap) (y : Value) (t' : Shared) : Prop where
  | mk (hos : t'.os = os) (nx' : List (Addr × Obj)) (F : Fr h₀ L t'.heap m) (N : News h₀ L t'.heap ((C, oc) :: (D, od) :: (I, oI') :: nx')) (ap : ∀ p ∈ nx', p.1 ≠ C ∧ p.1 ≠ D ∧ p.1 ≠ I)
      (keep : ∀ b ∈ fp, b ≠ I → ∀ o, h.get? b = some o → t'.heap.get? b = some o) (j : J (i + 1) (ys ++ [y]) nx' t'.gens t'.drawn)
/-- what an element must do -/
noncomputable def ElOk (prog : Program) (w : World) (A : Around) (env : Env) (scope : Scope) (clo : List (Str × Addr)) (x : Str) (elt : Expr) (h₀ : Heap) (L : Addr) (m : Str → Option Value) (os : OsState) (fp : List Addr) (I : Addr) (P : Nat → Value → Prop)
    (J : Nat → List Value → List (Addr × Obj) → Array GenState → Drawn → Prop) : Prop :=
  ∀ C D E' i v ys nx oc od oI' (t : Shared) mc, P i v → J i ys nx t.gens t.drawn → t.os = os → Fr h₀ L t.heap m → News h₀ L t.heap ((C, oc) :: (D, od) :: (I, oI') :: nx) → (∀ p ∈ nx, p.1 ≠ C ∧ p.1 ≠ D ∧ p.1 ≠ I) → t.heap.Ns C mc → mc x = some v →
      wpAny (model prog w) A (eval elt (compEnvC scope clo C env)) (ElPost J h₀ L m os fp C D I i ys oc od oI' t.heap) E' t
/-- the block of a list comprehension whose elements may grow and change the ledger -/
theorem comp_core {elt iter : Expr} {x : Str} {px : Pos} {scope : Scope} {clo : List (Str × Addr)} {pos : Pos} {s₂ : Shared} {I : Addr} {oI : Obj} {fp : List Addr} {n : Nat} {P : Nat → Value → Prop} {St : Nat → Heap → Prop} {nx₀ : List (Addr × Obj)}
    (J : Nat → List Value → List (Addr × Obj) → Array GenState → Drawn → Prop) {RR : Value → Addr → Result → Shared → Prop}
    (W : Walks prog w A I fp [I] n P St) (hstI : ∀ i h, St i h → ∃ o, h.get? I = some o) (hn : n ≤ 4096) (hst : St 0 s₂.heap) (hfp : ∀ b ∈ fp, b < s₂.heap.objs.size)
    (F : Fr h₀ L s₂.heap m) (N : News h₀ L s₂.heap ((I, oI) :: nx₀)) (hI : ∀ p ∈ nx₀, p.1 ≠ I) (hj : J 0 [] nx₀ s₂.gens s₂.drawn)
    (hcell : ∀ y ∈ scope.names, y.2 ≠ .cell) (hkind : scope.kind = .function) (hx : scope.names.lookup x = some .local)
    (hel : ElOk prog w A env scope clo x elt h₀ L m s₂.os fp I P J)
    (hRR : ∀ D C s' ys nx od, s'.os = s₂.os → J n ys nx s'.gens s'.drawn → Fr h₀ L s'.heap m → News h₀ L s'.heap ((D, od) :: nx) → IsListObj od ys → od.dict = none → (∃ m', s'.heap.Ns C m') → C ≠ L → h₀.get? C = none → (∀ p ∈ (D, od) :: nx, p.1 ≠ C) → (∀ p ∈ nx, p.1 ≠ D) → RR (.ref D) C (.ok .next) s') :
    wpAny (model prog w) A (newList []) (fun acc s₃ => wpAny (model prog w) A (newFunctionEnv scope env.globals clo [] env.qual none .none (some env)) (fun cenv s₄ =>
      codeAny (model prog w) A (.compStart (.ListComp elt [⟨.Name x px, iter, [], 0⟩] scope pos) 0 (.ref I) acc { cenv with scope := relabel scope env }) (RR acc cenv.locals) s₄) E s₃) E s₂ := by
  have lL : L < s₂.heap.objs.size := F.ns.lt
  refine wpAny_newObj_type (wpAny_newFunctionEnv hcell (by intro y hy; simp at hy) (fun h₁ hns₁ hsb₁ => ?_) hkind)
  dsimp only at hns₁ hsb₁ ⊢
  generalize hH2 : s₂.heap.push { cls := .type "list", dict := none, data := .seq ([] : List Value).toArray } = H2 at hns₁ hsb₁ ⊢
  have hC : H2.objs.size = s₂.heap.objs.size + 1 := by rw [← hH2, Heap.size_push]
  have hDC : s₂.heap.objs.size ≠ H2.objs.size := by rw [hC]; exact Nat.ne_of_lt (Nat.lt_succ_self _)
  have below : ∀ b, b < s₂.heap.objs.size → b ≠ H2.objs.size := fun b hb => by rw [hC]; exact Nat.ne_of_lt (Nat.lt_succ_of_lt hb)
  have old : ∀ b o, s₂.heap.get? b = some o → h₁.get? b = some o := fun b o e => hsb₁.extBut b o (below b (Heap.lt_size e)) (Heap.get?_push_of_some _ (hH2 ▸ Heap.get?_push_of_some _ e))
  have hacc : h₁.get? s₂.heap.objs.size = some { cls := .type "list", dict := none, data := .seq ([] : List Value).toArray } := hsb₁.extBut _ _ hDC (Heap.get?_push_of_some _ (hH2 ▸ Heap.get?_push_size _ rfl))
  have fresh : ∀ a, s₂.heap.objs.size ≤ a → h₀.get? a = none := fun a ha => by
    cases e : h₀.get? a with
    | none => rfl
    | some o' => exact absurd (Heap.lt_size (F.keep _ _ e)) (Nat.not_lt.mpr ha)
  have lI : I < s₂.heap.objs.size := Heap.lt_size (N _ (.head _)).1
  have lN : ∀ p ∈ nx₀, p.1 < s₂.heap.objs.size := fun p hp => Heap.lt_size (N _ (.tail _ hp)).1
  generalize hDg : s₂.heap.objs.size = D at *
  generalize hCg : H2.objs.size = C at *
  have hCL : C ≠ L := Ne.symm (below L lL)
  have hDL : D ≠ L := Nat.ne_of_gt lL
  have hC0 : h₀.get? C = none := fresh C (by rw [hC]; exact Nat.le_succ _)
  have hD0 : h₀.get? D = none := fresh D (Nat.le_refl _)
  have hIL : I ≠ L := (N _ (.head _)).2.1
  have hI0 : h₀.get? I = none := (N _ (.head _)).2.2
  have hIC : I ≠ C := below I lI
  have hID : I ≠ D := Nat.ne_of_lt lI
  have F₁ : Fr h₀ L h₁ m := F.keeps old
  have st₁ : St 0 h₁ := W.frame _ _ _ hst fun b _ o e => old b o e
  have nfp : ∀ b ∈ fp, b ≠ C ∧ b ≠ D := fun b hb => ⟨below b (hfp b hb), Nat.ne_of_lt (hfp b hb)⟩
  obtain ⟨oc₁, es₁, ep₁, hoc₁, r₁⟩ := id hns₁
  have loop : ∀ s₃ : Shared, s₃ = { s₂ with heap := h₁, toks := s₂.toks + ([] : List (Str × Value)).length } →
      codeAny (model prog w) A (.compLoop (.ListComp elt [⟨.Name x px, iter, [], 0⟩] scope pos) 0 (.ref I) (.ref D) (compEnvC scope clo C env)) (RR (.ref D) C) s₃ := by
    rintro s₃ rfl
    refine codeAny_compLoop_list (fun k t => ∃ i ys nx oc od oI', k = n - i ∧ CompInv n s₂.os J h₀ L m C D I St i ys nx oc od oI' t) ?_ (n - 0)
      ⟨0, [], nx₀, oc₁, { cls := .type "list", dict := none, data := .seq ([] : List Value).toArray }, oI, rfl, Nat.zero_le _, rfl, hj, F₁, ?_, ?_, ⟨rfl, _, rfl⟩, rfl, rfl, ⟨_, hns₁⟩, st₁⟩
    · rintro k t ⟨i, ys, nx, oc, od, oI', rfl, V⟩
      obtain ⟨mc, hnc⟩ := V.ns
      have keepN : ∀ h', (∀ b o, b ≠ I → t.heap.get? b = some o → h'.get? b = some o) → ∀ oI₂, h'.get? I = some oI₂ → Fr h₀ L h' m ∧ News h₀ L h' ((C, oc) :: (D, od) :: (I, oI₂) :: nx) := by
        intro h' hk oI₂ hI₂
        refine ⟨⟨V.F.ns.at' fun o e => hk L o (Ne.symm hIL) e, fun b o e => hk b o (fun q => by rw [q, hI0] at e; cases e) (V.F.keep b o e), V.F.above⟩, fun p hp => ?_⟩
        rcases List.mem_cons.mp hp with rfl | hp
        · exact ⟨hk _ _ (Ne.symm hIC) (V.N _ (.head _)).1, hCL, hC0⟩
        · rcases List.mem_cons.mp hp with rfl | hp
          · exact ⟨hk _ _ (Ne.symm hID) (V.N _ (.tail _ (.head _))).1, hDL, hD0⟩
          · rcases List.mem_cons.mp hp with rfl | hp
            · exact ⟨hI₂, hIL, hI0⟩
            · have n := V.N _ (.tail _ (.tail _ (.tail _ hp)))
              exact ⟨hk _ _ (V.ap p hp).2.2 n.1, n.2⟩
      by_cases hlt : i < n
      · refine W.item i t _ _ hlt V.st fun v h₂ tk₂ hPv hst₂ hk₂ => ?_
        obtain ⟨oI₂, hoI₂⟩ := hstI _ _ hst₂
        obtain ⟨F₂, N₂⟩ := keepN h₂ (fun b o hb e => hk₂ b o (fun q => hb (List.mem_singleton.mp q)) e) oI₂ hoI₂
        have hnc₂ : h₂.Ns C mc := hnc.at' fun o e => hk₂ C o (fun q => hIC (List.mem_singleton.mp q).symm) e
        dsimp only
        refine wpAny_assign_Name (wpAny_storeName_local (s := { t with heap := h₂, toks := tk₂ }) (env := compEnvC scope clo C env) (lookup_relabel_local hx) hnc₂ (fun h₃ hn₃ hs₃ => ?_) (by simp [compEnvC, relabel, hkind]))
        replace hs₃ : Heap.SameBut C h₂ h₃ := hs₃
        have F₃ : Fr h₀ L h₃ m := ⟨F₂.ns.at' fun o e => hs₃.extBut L o (Ne.symm hCL) e, fun b o e => hs₃.extBut b o (fun q => by rw [q, hC0] at e; cases e) (F₂.keep b o e), F₂.above⟩
        obtain ⟨oc₃, es₃, ep₃, hoc₃, r₃⟩ := id hn₃
        have N₃ : News h₀ L h₃ ((C, oc₃) :: (D, od) :: (I, oI₂) :: nx) := by
          intro p hp
          rcases List.mem_cons.mp hp with rfl | hp
          · exact ⟨hoc₃, hCL, hC0⟩
          · have n := N₂ p (.tail _ hp)
            refine ⟨hs₃.extBut _ _ ?_ n.1, n.2⟩
            rcases List.mem_cons.mp hp with rfl | hp
            · exact hDC
            · rcases List.mem_cons.mp hp with rfl | hp
              · exact hIC
              · exact (V.ap p hp).1
        have st₃ : St (i + 1) h₃ := W.frame _ _ _ hst₂ fun b hb o e => hs₃.extBut b o (nfp b hb).1 e
        refine wpAny_mono (hel C D _ i v ys nx oc₃ od oI₂ { t with heap := h₃, toks := tk₂ + 1 } _ hPv V.J V.os F₃ N₃ V.ap hn₃ (by simp)) (fun y t' ht' => ?_) fun _ _ e => e
        obtain ⟨V.os', nx', F₄, N₄, hap', hkf, hJ'⟩ := ht'
        have hD₄ := (N₄ _ (.tail _ (.head _))).1
        refine list_append_at hD₄ V.lo (by rw [V.len]; exact Nat.le_of_lt (Nat.lt_of_lt_of_le hlt hn)) fun h₅ od₅ hs₅ hod₅ hlo₅ hdn₅ => ?_
        refine ⟨n - (i + 1), Nat.sub_lt_sub_left hlt (Nat.lt_succ_self i), i + 1, ys ++ [y], nx', oc₃, od₅, oI₂, rfl, hlt, V.os', hJ', ?_, ?_, hap', hlo₅, hdn₅.trans V.dn, by simp [V.len], ⟨_, hn₃.at' fun o e => ?_⟩, ?_⟩
        · exact ⟨F₄.ns.at' fun o e => hs₅.extBut L o (Ne.symm hDL) e, fun b o e => hs₅.extBut b o (fun q => by rw [q, hD0] at e; cases e) (F₄.keep b o e), F₄.above⟩
        · intro p hp
          rcases List.mem_cons.mp hp with rfl | hp
          · exact ⟨hs₅.extBut _ _ (Ne.symm hDC) (N₄ _ (.head _)).1, hCL, hC0⟩
          · rcases List.mem_cons.mp hp with rfl | hp
            · exact ⟨hod₅, hDL, hD0⟩
            · have n := N₄ p (.tail _ (.tail _ hp))
              refine ⟨hs₅.extBut _ _ ?_ n.1, n.2⟩
              rcases List.mem_cons.mp hp with rfl | hp
              · exact hID
              · exact (hap' p hp).2.1
        · have e1 : o = oc₃ := Option.some.inj (e.symm.trans hoc₃)
          rw [e1]
          exact hs₅.extBut _ _ (Ne.symm hDC) (N₄ _ (.head _)).1
        · refine W.frame _ _ _ st₃ fun b hb o e => hs₅.extBut b o (nfp b hb).2 ?_
          by_cases hbI : b = I
          · subst hbI
            have e1 : o = oI₂ := Option.some.inj (e.symm.trans (N₃ _ (.tail _ (.tail _ (.head _)))).1)
            rw [e1]
            exact (N₄ _ (.tail _ (.tail _ (.head _)))).1
          · exact hkf b hb hbI o e
      · have hin : i = n := Nat.le_antisymm V.hi (Nat.not_lt.mp hlt)
        subst hin
        refine W.done t _ _ V.st fun h₂ tk₂ hk₂ => ?_
        dsimp only
        have hk : ∀ b o, b ≠ I → t.heap.get? b = some o → h₂.get? b = some o := fun b o hb e => hk₂ b o (fun q => hb (List.mem_singleton.mp q)) e
        refine hRR D C _ ys nx od V.os V.J ?_ ?_ V.lo V.dn ⟨mc, hnc.at' fun o e => hk C o (Ne.symm hIC) e⟩ hCL hC0 ?_ fun p hp => (V.ap p hp).2.1
        · exact ⟨V.F.ns.at' fun o e => hk L o (Ne.symm hIL) e, fun b o e => hk b o (fun q => by rw [q, hI0] at e; cases e) (V.F.keep b o e), V.F.above⟩
        · intro p hp
          rcases List.mem_cons.mp hp with rfl | hp
          · exact ⟨hk _ _ (Ne.symm hID) (V.N _ (.tail _ (.head _))).1, hDL, hD0⟩
          · have n := V.N _ (.tail _ (.tail _ (.tail _ hp)))
            exact ⟨hk _ _ (V.ap p hp).2.2 n.1, n.2⟩
        · intro p hp
          rcases List.mem_cons.mp hp with rfl | hp
          · exact hDC
          · exact (V.ap p hp).1
    · intro p hp
      rcases List.mem_cons.mp hp with rfl | hp
      · exact ⟨hoc₁, hCL, hC0⟩
      · rcases List.mem_cons.mp hp with rfl | hp
        · exact ⟨hacc, hDL, hD0⟩
        · have n := N p hp
          exact ⟨old _ _ n.1, n.2⟩
    · exact fun p hp => ⟨below _ (lN p hp), Nat.ne_of_lt (lN p hp), hI p hp⟩
  exact codeAny_compStart_list (loop _ rfl) (W.self 0 _ _ _ st₁ (loop _ rfl))
end
end Mine
end

-- part JY
section
open PySem PySem.W PySem.Calls PyProof.Rows
namespace Mine
set_option maxRecDepth 100000
set_option maxHeartbeats 1000000
set_option linter.unusedVariables false

section
variable {h₀ h h' : Heap} {L C : Addr} {m : Str → Option Value} {news : List (Addr × Obj)}
theorem drop_C (F : Fr h₀ L h m) (N : News h₀ L h news) (hs : Heap.SameBut C h h') (hL : C ≠ L) (h0 : h₀.get? C = none) (hap : ∀ p ∈ news, p.1 ≠ C) : Fr h₀ L h' m ∧ News h₀ L h' news :=
  ⟨⟨F.ns.at' fun o e => hs.extBut L o (Ne.symm hL) e, fun b o e => hs.extBut b o (fun q => by rw [q, h0] at e; cases e) (F.keep b o e), F.above⟩, fun p hp => ⟨hs.extBut _ _ (hap p hp) (N p hp).1, (N p hp).2⟩⟩
end

theorem small_n {n : Nat} (hn : n ≤ 4096) : Builtin.Range.small 0 (n : Int) 1 = true := by
  have hf : Builtin.Range.rangeFitsLong (n : Int) = true := by
    unfold Builtin.Range.rangeFitsLong
    rw [decide_eq_true (int_lo n), decide_eq_true (int_hi hn)]
    rfl
  unfold Builtin.Range.small
  rw [PyProof.Rows.rangeSize_nat, Int.sub_zero, Int.toNat_natCast, hf, if_pos (by decide : (1 : Int) > 0), show (n : Int) + (1 - 1) = n from Int.add_zero _, hf, Bool.or_true]
  decide

section
variable {prog : Program} {w : World} {A : Around} {E : Value → Shared → Prop} {s : Shared} {env : Env} {h₀ : Heap} {m : Str → Option Value}

/-- what `range(n)` hands to a comprehension, and what must follow -/
inductive RangeRes (prog : Program) (w : World) (A : Around) (env : Env) (scope : Scope) (clo : List (Str × Addr)) (x : Str) (elt : Expr) (h₀ : Heap) (L : Addr) (m : Str → Option Value) (os : OsState)
    (J : Nat → List Value → List (Addr × Obj) → Array GenState → Drawn → Prop) (M : Addr → Str → Option Value) (R : Addr → Shared → Prop) (xv : Value) (s₁ : Shared) : Prop where
  | mk (r : Addr) (t u v : Tok) (nx₀ : List (Addr × Obj)) (n : Nat) (hx : xv = .ref r) (hr : IsRange s₁.heap r 0 (n : Nat) 1 t u v) (hn : n ≤ 4096) (hos : s₁.os = os) (F : Fr h₀ L s₁.heap m) (N : News h₀ L s₁.heap nx₀) (hj : J 0 [] nx₀ s₁.gens s₁.drawn)
      (hel : ∀ I, ElOk prog w A env scope clo x elt h₀ L m os [I] I (fun i v => i < n ∧ ∃ t, v = .int (i : Nat) t) J)
      (hQ : ∀ D s' ys nx od, s'.os = os → J n ys nx s'.gens s'.drawn → Fr h₀ L s'.heap (M D) → News h₀ L s'.heap ((D, od) :: nx) → IsListObj od ys → od.dict = none → (∀ p ∈ nx, p.1 ≠ D) → R D s')

theorem range_core {elt iter : Expr} {x : Str} {px : Pos} {scope : Scope} {clo : List (Str × Addr)} {pos : Pos} {os : OsState} {L : Addr} {s₁ : Shared} {r : Addr} {t u v : Tok} {nx₀ : List (Addr × Obj)} {n : Nat} {RR : Value → Addr → Result → Shared → Prop}
    (J : Nat → List Value → List (Addr × Obj) → Array GenState → Drawn → Prop) (hh : A.handled = none)
    (hr : IsRange s₁.heap r 0 (n : Nat) 1 t u v) (hn : n ≤ 4096) (hos : s₁.os = os) (F : Fr h₀ L s₁.heap m) (N : News h₀ L s₁.heap nx₀) (hj : J 0 [] nx₀ s₁.gens s₁.drawn)
    (hel : ∀ I, ElOk prog w A env scope clo x elt h₀ L m os [I] I (fun i v => i < n ∧ ∃ t, v = .int (i : Nat) t) J)
    (hcell : ∀ y ∈ scope.names, y.2 ≠ .cell) (hkind : scope.kind = .function) (hx : scope.names.lookup x = some .local)
    (hRR : ∀ D C s' ys nx od, s'.os = s₁.os → J n ys nx s'.gens s'.drawn → Fr h₀ L s'.heap m → News h₀ L s'.heap ((D, od) :: nx) → IsListObj od ys → od.dict = none → (∃ m', s'.heap.Ns C m') → C ≠ L → h₀.get? C = none → (∀ p ∈ (D, od) :: nx, p.1 ≠ C) → (∀ p ∈ nx, p.1 ≠ D) → RR (.ref D) C (.ok .next) s') :
    wpAny (model prog w) A (pyIter (.ref r)) (fun it s₂ => wpAny (model prog w) A (newList []) (fun acc s₃ => wpAny (model prog w) A (newFunctionEnv scope env.globals clo [] env.qual none .none (some env)) (fun cenv s₄ =>
      codeAny (model prog w) A (.compStart (.ListComp elt [⟨.Name x px, iter, [], 0⟩] scope pos) 0 it acc { cenv with scope := relabel scope env }) (RR acc cenv.locals) s₄) E s₃) E s₂) E s₁ := by
  subst hos
  refine wpAny_pyIter_range hr (small_n hn) ?_
  have hsz : Builtin.Range.rangeSize 0 (n : Int) 1 = (n : Int) := by rw [PyProof.Rows.rangeSize_nat, Int.sub_zero, Int.toNat_natCast]
  have lI : ∀ p ∈ nx₀, p.1 ≠ s₁.heap.objs.size := fun p hp => Nat.ne_of_lt (Heap.lt_size (N p hp).1)
  refine comp_core (n := n) (h₀ := h₀) (L := L) (m := m) (nx₀ := nx₀) (oI := { cls := .type "range_iterator", data := .fields #[rawInt 0, rawInt (Builtin.Range.rangeSize 0 (n : Int) 1), rawInt 1] }) J (RR := RR) (Walks.range hh s₁.heap.objs.size 0 1 n).bound (fun i h st => ⟨_, st⟩) hn ?_ ?_ (F.push _) (News.push F N _) lI hj hcell hkind hx ?_ hRR
  · show IsRangeIter _ _ _ _ _
    rw [hsz]
    simpa using Heap.get?_push_size _ rfl
  · intro b hb
    show b < (s₁.heap.push _).objs.size
    rw [Heap.size_push]
    rcases List.mem_cons.mp hb with rfl | hb
    · exact Nat.lt_succ_self _
    · cases hb
  · intro C D E' i v ys nx oc od oI' t' mc hP hJ hos' F' N' hap hn' hm
    refine hel s₁.heap.objs.size C D E' i v ys nx oc od oI' t' mc ?_ hJ hos' F' N' hap hn' hm
    obtain ⟨h1, t1, e⟩ := hP
    exact ⟨h1, t1, by rw [e]; simp⟩

/-- `[elt for x in range(n)]` -/
theorem comp_range {elt iter : Expr} {x : Str} {px : Pos} {scope : Scope} {clo : List (Str × Addr)} {pos : Pos} {Q : Value → Shared → Prop} {os : OsState}
    (J : Nat → List Value → List (Addr × Obj) → Array GenState → Drawn → Prop) (_F : Fr h₀ env.locals s.heap m) (hh : A.handled = none) (hclos : closureFor scope env = pure clo)
    (h : wpAny (model prog w) A (eval iter env) (RangeRes prog w A env scope clo x elt h₀ env.locals m os J (fun _ => m) (fun D s' => Q (.ref D) s')) E s)
    (hs : ∀ x, foldedSetIterable iter env x = pure x)
    (hcell : ∀ y ∈ scope.names, y.2 ≠ .cell) (hkind : scope.kind = .function)
    (hnames : ∀ y ∈ scope.names, y.2 = .local → scope.names.lookup y.1 = some .local) (hx : scope.names.lookup x = some .local) :
    wpAny (model prog w) A (eval (.ListComp elt [⟨.Name x px, iter, [], 0⟩] scope pos) env) Q E s := by
  rw [eval_ListComp]
  refine wpAny_comprehension_free (use := none) rfl hs hclos hkind hnames (wpAny_mono h (fun xv s₁ h₁ => ?_) fun _ _ e => e)
  obtain ⟨r, t, u, v, nx₀, n, rfl, hr, hn, hos, F, N, hj, hel, hQ⟩ := h₁
  refine range_core J hh hr hn hos F N hj hel hcell hkind hx fun D C s' ys nx od hos' hJ F' N' hod hdn hns hCL hC0 hap hD => ?_
  obtain ⟨m', hm'⟩ := hns
  refine ⟨m', hm', fun h'' hs'' => ?_⟩
  obtain ⟨F'', N''⟩ := drop_C F' N' hs'' hCL hC0 hap
  exact hQ D { s' with heap := h'' } ys nx od (hos'.trans hos) hJ F'' N'' hod hdn hD

/-- `y = [elt for x in iter]`, y a local name: what is left to show -/
theorem use_head {elt iter : Expr} {x y : Str} {px py : Pos} {scope : Scope} {clo : List (Str × Addr)} {pos spos : Pos} {Q : Flow → Shared → Prop} (hclos : closureFor scope env = pure clo)
    (hsw : swapsWith (.ListComp elt [⟨.Name x px, iter, [], 0⟩] scope pos) (some (.Name y py)) spos.line env = pure true)
    (hs : ∀ x, foldedSetIterable iter env x = pure x) (hkind : scope.kind = .function) (hnames : ∀ y ∈ scope.names, y.2 = .local → scope.names.lookup y.1 = some .local)
    (h : wpAny (model prog w) A (eval iter env) (fun xv s₁ => wpAny (model prog w) A (pyIter xv) (fun it s₂ => wpAny (model prog w) A (newList []) (fun acc s₃ => wpAny (model prog w) A (newFunctionEnv scope env.globals clo [] env.qual none .none (some env)) (fun cenv s₄ =>
      codeAny (model prog w) A (.compStart (.ListComp elt [⟨.Name x px, iter, [], 0⟩] scope pos) 0 it acc { cenv with scope := relabel scope env }) (compPost (model prog w) A E (some (assign (.Name y py) env)) (fun _ s' => Q .next s') acc cenv.locals) s₄) E s₃) E s₂) E s₁) E s) :
    wpAny (model prog w) A (exec (.Assign [.Name y py] (.ListComp elt [⟨.Name x px, iter, [], 0⟩] scope pos) spos) env) Q E s := by
  rw [exec_Assign_Name_used _ _ _ _ hsw]
  refine wpAny_bind (wpAny_standAt (wpAny_bind ?_))
  show wpAny _ A (do let _ ← comprehension (.ListComp elt [⟨.Name x px, iter, [], 0⟩] scope pos) scope env _ (newList []) false (eval iter env) (some (assign (.Name y py) env))) _ _ s
  exact wpAny_bind (wpAny_mono (wpAny_comprehension_free (use := some (assign (.Name y py) env)) (Q := fun _ s' => Q .next s') rfl hs hclos hkind hnames h) (fun _ s' hq => wpAny_pure (wpAny_pure hq)) fun _ _ e => e)
theorem use_tail {y : Str} {py : Pos} {Q : Flow → Shared → Prop} {D C : Addr} {s' : Shared} {nx : List (Addr × Obj)} {od : Obj}
    (hy : env.kindOf y = some .local) (hp : (env.scope.kind == .class || (env.scope.kind == .module && env.locals != env.globals)) = false)
    (F' : Fr h₀ env.locals s'.heap m) (N' : News h₀ env.locals s'.heap ((D, od) :: nx)) (hns : ∃ m', s'.heap.Ns C m') (hCL : C ≠ env.locals) (hC0 : h₀.get? C = none) (hap : ∀ p ∈ (D, od) :: nx, p.1 ≠ C)
    (hQ : ∀ h'', Fr h₀ env.locals h'' (fun z => if z = y then some (.ref D) else m z) → News h₀ env.locals h'' ((D, od) :: nx) → Q .next { s' with heap := h'', toks := s'.toks + 1 }) :
    compPost (model prog w) A E (some (assign (.Name y py) env)) (fun _ s' => Q .next s') (.ref D) C (.ok .next) s' := by
  obtain ⟨m', hm'⟩ := hns
  show wpAny _ A (assign (.Name y py) env (.ref D)) _ _ _
  refine wpAny_assign_Name (wpAny_storeName_local hy F'.ns (fun h₂ hn₂ hs₂ => ⟨m', hm'.at' fun o e => (hs₂.2 C hCL).trans e, fun h'' hs'' => ?_⟩) hp)
  obtain ⟨F'', N''⟩ := drop_C (F'.set hn₂ hs₂) (N'.set hs₂) hs'' hCL hC0 hap
  exact hQ h'' F'' N''

/-- `y = [elt for x in range(n)]`, y a local name: the list is stored before the block's names are let go -/
theorem comp_range_use {elt iter : Expr} {x y : Str} {px py : Pos} {scope : Scope} {clo : List (Str × Addr)} {pos spos : Pos} {Q : Flow → Shared → Prop} {os : OsState}
    (J : Nat → List Value → List (Addr × Obj) → Array GenState → Drawn → Prop) (_F : Fr h₀ env.locals s.heap m) (hh : A.handled = none) (hclos : closureFor scope env = pure clo)
    (hsw : swapsWith (.ListComp elt [⟨.Name x px, iter, [], 0⟩] scope pos) (some (.Name y py)) spos.line env = pure true)
    (hy : env.kindOf y = some .local) (hp : (env.scope.kind == .class || (env.scope.kind == .module && env.locals != env.globals)) = false)
    (h : wpAny (model prog w) A (eval iter env) (RangeRes prog w A env scope clo x elt h₀ env.locals m os J (fun D z => if z = y then some (.ref D) else m z) (fun _ s' => Q .next s')) E s)
    (hs : ∀ x, foldedSetIterable iter env x = pure x)
    (hcell : ∀ y ∈ scope.names, y.2 ≠ .cell) (hkind : scope.kind = .function)
    (hnames : ∀ y ∈ scope.names, y.2 = .local → scope.names.lookup y.1 = some .local) (hx : scope.names.lookup x = some .local) :
    wpAny (model prog w) A (exec (.Assign [.Name y py] (.ListComp elt [⟨.Name x px, iter, [], 0⟩] scope pos) spos) env) Q E s := by
  refine use_head hclos hsw hs hkind hnames (wpAny_mono h (fun xv s₁ h₁ => ?_) fun _ _ e => e)
  obtain ⟨r, t, u, v, nx₀, n, rfl, hr, hn, hos, F, N, hj, hel, hQ⟩ := h₁
  exact range_core J hh hr hn hos F N hj hel hcell hkind hx fun D C s' ys nx od hos' hJ F' N' hod hdn hns hCL hC0 hap hD =>
    use_tail hy hp F' N' hns hCL hC0 hap fun h'' F'' N'' => hQ D { s' with heap := h'', toks := s'.toks + 1 } ys nx od (hos'.trans hos) hJ F'' N'' hod hdn hD
end
end Mine
end

-- part JZ
section
open PySem PySem.W PySem.Calls PyProof.Rows
namespace Mine
set_option maxRecDepth 100000
set_option maxHeartbeats 1000000
set_option linter.unusedVariables false

noncomputable def isFuncIn (K : Frag) (a : Addr) : Bool := match K.lookup a with
  | some ⟨_, _, .func _, _⟩ => true
  | _ => false
theorem isFuncIn_at {K : Frag} {a : Addr} {h : Heap} (X : K.In h) (e : isFuncIn K a = true) : ∃ o fd, h.get? a = some o ∧ o.data = .func fd := by
  unfold isFuncIn at e
  cases ho : K.lookup a with
  | none => rw [ho] at e; exact Bool.noConfusion (e : false = true)
  | some o =>
    rw [ho] at e
    obtain ⟨c, d, dt, sl⟩ := o
    cases dt <;> first | exact Bool.noConfusion (e : false = true) | exact ⟨_, _, X _ _ ho, rfl⟩
theorem number_fn (w : World) : isFuncIn (hd.heap_39 w.params) 175 = true := by kernel_rfl
theorem octets_fn (w : World) : isFuncIn (hd.heap_39 w.params) 182 = true := by kernel_rfl
theorem value_fn (w : World) : isFuncIn (hd.heap_39 w.params) 196 = true := by kernel_rfl
theorem number_name (w : World) : nsIn (hd.heap_39 w.params) mainGlobals (Str.ofString "_law_number") = some (some (.ref 175)) := by kernel_rfl
theorem octets_name (w : World) : nsIn (hd.heap_39 w.params) mainGlobals (Str.ofString "_law_octets") = some (some (.ref 182)) := by kernel_rfl
theorem value_name (w : World) : nsIn (hd.heap_39 w.params) mainGlobals (Str.ofString "_law_value") = some (some (.ref 196)) := by kernel_rfl
theorem share_name (w : World) : nsIn (hd.heap_39 w.params) mainGlobals (Str.ofString "RawShare") = some (some (.ref 145)) := by kernel_rfl
noncomputable def spreadV : Int := 16395309179817738009521987751666139093583423331470737840399399094199505546377
noncomputable def intIn (K : Frag) (x : Str) (n : Int) : Bool := ((nsIn K mainGlobals x).map (cellIs n)).getD false
theorem spread_name (w : World) : intIn (hd.heap_39 w.params) (Str.ofString "_law_spread") spreadV = true := by kernel_rfl
theorem intIn_at {K : Frag} {x : Str} {n : Int} (e : intIn K x n = true) : ∃ t, nsIn K mainGlobals x = some (some (.int n t)) := by
  unfold intIn at e
  generalize nsIn K mainGlobals x = r at e ⊢
  cases r with
  | none => exact Bool.noConfusion (e : false = true)
  | some r =>
    obtain ⟨t, rfl⟩ := cellIs_at (show cellIs n r = true from e)
    exact ⟨t, rfl⟩

theorem numAt_bits {ns : List Int} (h : PyData.layable0 (.list (ns.map .int)) = true) {k : Int} (hk0 : 0 ≤ k) (hk : k < 2 ^ 20) : Builtin.Int.intBits (numAt ns k) ≤ 1048577 := by
  unfold numAt
  have h1 : Builtin.Int.intBits (if 0 < ns.length then ns.getD (k.fmod (ns.length : Int)).toNat 0 else 0) ≤ 1048576 := by
    split
    · rw [List.getD_eq_getElem?_getD]
      cases e : ns[(k.fmod (ns.length : Int)).toNat]? with
      | none => exact Nat.le_trans (intBits_le_64 (by decide) (by decide)) (by decide)
      | some v => exact intBits_le_of_item (List.mem_of_getElem? e) h
    · exact Nat.le_trans (intBits_le_64 (by decide) (by decide)) (by decide)
  have h2 : Builtin.Int.intBits (7 * k) ≤ 64 := intBits_le_64 (Int.lt_of_lt_of_le (by decide) (Int.mul_nonneg (by decide) hk0)) (Int.lt_trans (Int.mul_lt_mul_of_pos_left hk (by decide)) (by decide))
  have := intBits_add_le h1 h2
  exact Nat.le_trans this (by decide)

theorem intsAre_snoc {ys : List Value} {l : List Int} {n : Int} {t : Tok} (h : IntsAre ys l) : IntsAre (ys ++ [.int n t]) (l ++ [n]) := by
  induction h with
  | nil => exact .cons n t .nil
  | cons n t _ ih => exact .cons n t ih
theorem spread_bits : Builtin.Int.intBits spreadV ≤ 300 := by decide +kernel
/-- the lanes of one coefficient -/
noncomputable def laneAt (ns : List Int) (z i : Nat) : Nat := ((numAt ns (2 + (i : Int)) * spreadV) % (256 ^ z : Nat)).toNat
theorem lane_eq (ns : List Int) (z i : Nat) : (numAt ns (2 + ((i : Nat) : Int)) * spreadV).fmod (256 ^ ((z : Nat) : Int).toNat) = ((laneAt ns z i : Nat) : Int) := by
  unfold laneAt
  rw [Int.toNat_natCast]
  have e : (256 : Int) ^ z = ((256 ^ z : Nat) : Int) := by rw [Int.natCast_pow]; rfl
  have h1 : (0 : Int) < ((256 ^ z : Nat) : Int) := Int.natCast_pos.mpr (Nat.pow_pos (by decide))
  rw [e, Int.fmod_eq_emod_of_nonneg _ (Int.le_of_lt h1)]
  exact (Int.toNat_of_nonneg (Int.emod_nonneg _ (Int.ne_of_gt h1))).symm
theorem laneAt_lt (ns : List Int) {z : Nat} (hz : z ≤ 3) (i : Nat) : laneAt ns z i < 2 ^ 24 := by
  unfold laneAt
  have h1 : (0 : Int) < ((256 ^ z : Nat) : Int) := Int.natCast_pos.mpr (Nat.pow_pos (by decide))
  have h2 := Int.emod_lt_of_pos (numAt ns (2 + (i : Int)) * spreadV) h1
  have h3 : 256 ^ z ≤ 2 ^ 24 := by
    have : 256 ^ z ≤ 256 ^ 3 := Nat.pow_le_pow_right (by decide) hz
    exact Nat.le_trans this (by decide)
  exact Nat.lt_of_lt_of_le ((Int.toNat_lt (Int.emod_nonneg _ (Int.ne_of_gt h1))).mpr h2) h3

section
variable {w : World} {p : Program} {loose : List Str} {mean : ExcName → Option Value} {mg mb : Str → Option Value} {dp un : Nat} {gd : Option (List Code)} {cn : Str} {cs : Scope} {a : Addr} {ccd : Value} {cl : List (Str × Addr)} {outer : List Env} {A₀ : Around} {base h₀ : Heap} {L : Addr} {m : Str → Option Value} {news : List (Addr × Obj)} {s : Shared} {Q E : Value → Shared → Prop} {cenv : Env}
/-- a call of _law_number from an inner block -/
theorem el_number {la : Addr} {vs : List Value} {ns : List Int} {k : Int} {sn : Str} {e : Expr} {p1 p2 p3 : Pos}
    (B : Below A₀ base outer h₀) (F : Fr h₀ L s.heap m) (X : (hd.heap_39 w.params).In h₀) (N : News h₀ L s.heap news) (T : Top p loose mean mg mb h₀) (hk : cs.kind = .function)
    (hl : base.IsList la vs.toArray) (hi : IntsAre vs ns) (hn : ns.length < 2 ^ 62) (h0 : 0 ≤ k) (hd9 : dp + 1 < recursionLimit) (hu9 : un + 8 < cLine)
    (hck : cenv.scope.kind = .function) (hg : cenv.globals = mainGlobals) (hkn : cenv.kindOf (Str.ofString "_law_number") = some .globalImplicit)
    (hsn : ∀ Q E, Q (.ref la) s → wpAny (model PySem.Challenge.rw_jb0038_01.row.prog w) (ktrTop dp un gd cn cs L a ccd cl outer) (eval (.Name sn p2) cenv) Q E s)
    (he : ∀ (Q E : Value → Shared → Prop), (∀ t tk, Q (.int k t) { s with toks := tk }) → wpAny (model PySem.Challenge.rw_jb0038_01.row.prog w) (ktrTop dp un gd cn cs L a ccd cl outer) (eval e cenv) Q E s)
    (hret : ∀ (t : Tok) (h' : Heap) (tk' : Nat), Fr h₀ L h' m → News h₀ L h' news → Q (.int (numAt ns k) t) { s with heap := h', toks := tk' })
    (hst : starEach [e] cenv = (false, eval e cenv) :: starEach [] cenv) :
    wpAny (model PySem.Challenge.rw_jb0038_01.row.prog w) (ktrTop dp un gd cn cs L a ccd cl outer) (eval (.Call (.Name (Str.ofString "_law_number") p1) [.Name sn p2, e] [] p3) cenv) Q E s := by
  have Xs := X.keeps F.keep
  have Ts := T.keeps F.keep
  refine Call_ ?_
  refine el_global (hd := by decide) Xs Ts hck hg hkn (number_name w) ?_
  obtain ⟨o, fd, ho, hdat⟩ := isFuncIn_at Xs (number_fn w)
  refine callWith_def hdat ?_
  refine args_cons ?_
  refine hsn _ _ ?_
  refine args_cons ?_ hst
  refine he _ _ fun t tk => ?_
  refine args_nil ⟨ho, ?_⟩
  exact number_c (s := { s with toks := tk }) B F X N T hk hl hi hn h0 hd9 hu9 hret
end

theorem intsAre_of_get : ∀ {l : List Int} {vs : List Value}, vs.length = l.length → (∀ (i : Nat) (v : Value), vs[i]? = some v → ∃ t, v = Value.int (l.getD i 0) t) → IntsAre vs l
  | [], [], _, _ => .nil
  | [], _ :: _, h, _ => nomatch h
  | _ :: _, [], h, _ => nomatch h
  | n :: l, v :: vs, h, g => by
    obtain ⟨t, e⟩ := g 0 v rfl
    have e' : v = .int n t := e
    subst e'
    exact .cons n t (intsAre_of_get (Nat.succ.inj h) fun i v' hv => g (i + 1) v' hv)
end Mine
end

-- part KA
section
open PySem PySem.W PySem.Calls PyProof.Rows
namespace Mine
set_option maxRecDepth 100000
set_option maxHeartbeats 1000000
set_option linter.unusedVariables false

theorem fmodN' (z : Int) (k : Nat) (hk : 0 < k) : z.fmod (k : Int) = (((z % (k : Int)).toNat : Nat) : Int) := by
  rw [Int.fmod_eq_emod_of_nonneg _ (Int.natCast_nonneg k), Int.toNat_of_nonneg (Int.emod_nonneg z (Int.ofNat_ne_zero.mpr (Nat.ne_of_gt hk)))]
/-- the free places after i picks, and the picks -/
noncomputable def freeN (ns : List Int) : Nat → List Nat
  | 0 => List.range 256
  | i + 1 => (freeN ns i).eraseIdx ((numAt ns (10 + (i : Int)) % ((freeN ns i).length : Nat)).toNat)
noncomputable def pickN (ns : List Int) (i : Nat) : Nat := (numAt ns (10 + (i : Int)) % ((freeN ns i).length : Nat)).toNat
noncomputable def placeN (ns : List Int) (i : Nat) : Nat := (freeN ns i).getD (pickN ns i) 0
theorem pickN_lt {ns : List Int} {i : Nat} (h : 0 < (freeN ns i).length) : pickN ns i < (freeN ns i).length := by
  unfold pickN
  exact (Int.toNat_lt (Int.emod_nonneg _ (Int.ofNat_ne_zero.mpr (Nat.ne_of_gt h)))).mpr (Int.emod_lt_of_pos _ (Int.ofNat_lt.mpr h))
theorem freeN_len (ns : List Int) (i : Nat) (h : i ≤ 256) : (freeN ns i).length = 256 - i := by
  induction i with
  | zero => exact List.length_range
  | succ i ih =>
    have ih := ih (Nat.le_of_succ_le h)
    have hp : pickN ns i < (freeN ns i).length := pickN_lt (by rw [ih]; exact Nat.sub_pos_of_lt h)
    show ((freeN ns i).eraseIdx (pickN ns i)).length = _
    rw [List.length_eraseIdx, if_pos hp, ih]
    exact Nat.sub_sub 256 i 1
theorem intsAre_erase : ∀ {l : List Int} {vs : List Value} (k : Nat), IntsAre vs l → IntsAre (vs.eraseIdx k) (l.eraseIdx k)
  | _, _, _, .nil => .nil
  | _, _, 0, .cons n t r => r
  | _, _, k + 1, .cons n t r => .cons n t (intsAre_erase k r)

section
variable {prog : Program} {w : World} {A : Around} {E : Value → Shared → Prop} {s : Shared}
theorem list_pop_at {l : Addr} {vs : List Value} {k : Nat} {x : Value} {t : Tok} {o : Obj} {Q : Value → Shared → Prop} (ho : s.heap.get? l = some o) (hl : IsListObj o vs) (hk : vs[k]? = some x) (hz : vs.length ≤ 4096)
    (h : ∀ h' o', Heap.SameBut l s.heap h' → h'.get? l = some o' → IsListObj o' (vs.eraseIdx k) → o'.dict = o.dict → Q x { s with heap := h' }) :
    wpAny (model prog w) A (call (.builtin "list.pop") [.ref l, .int (k : Nat) t]) Q E s := by
  have hT := (hl.at ho).typeIs
  have hlt : k < vs.length := (List.getElem?_eq_some_iff.mp hk).1
  refine wpAny_call_entry F.slot_list_pop hT F.entry_list_pop ?_ (F.args_list_pop_2 _ _)
  unfold Builtin.«list.pop»
  obtain ⟨hc, n, hd⟩ := id hl
  have h0 : (0 : Int) ≤ ((k : Nat) : Int) := Int.natCast_nonneg k
  have h1 : ((k : Nat) : Int) < 4096 := Int.ofNat_lt.mpr (Nat.lt_of_lt_of_le hlt hz)
  have hsq : seqIndex? ((k : Nat) : Int) vs.toArray.size = some k := by
    have hneg : ¬ (((k : Nat) : Int) < 0) := Int.not_lt.mpr h0
    simp [seqIndex?, hneg, hlt]
  have hix : asIndex (.int ((k : Nat) : Int) t) = pure ((k : Nat) : Int) := rfl
  generalize hv : Value.int ((k : Nat) : Int) t = v at hix ⊢
  clear hv
  refine wpAny_bind (wpAny_of_eq (a := (Value.ref l, [v])) rfl ?_)
  dsimp only
  refine wpAny_bind (wpAny_of_eq hix ?_)
  generalize ((k : Nat) : Int) = i at h0 h1 hsq
  try dsimp only
  refine bm_if_false (by unfold PySem.Builtin.List.listFitsIndex; rw [decide_eq_true (Int.le_trans (by decide) h0), decide_eq_true (Int.lt_trans h1 (by decide))]; rfl) ?_
  refine wpAny_bind ?_
  unfold PySem.Builtin.List.listItems
  refine wpAny_bind (wpAny_seqItems ho hd (wpAny_pure ?_))
  refine bm_if_false (by cases vs with | nil => exact absurd hlt (Nat.not_lt_zero _) | cons _ _ => rfl) ?_
  rw [hsq]
  have hka : vs.toArray[k]? = some x := by simpa using hk
  simp only [Option.bind_some, hka, Option.map_some]
  obtain ⟨n', hd'⟩ := Obj.data_mapSeq hd (·.eraseIdxIfInBounds k)
  refine wpAny_bind ?_
  show wpAny _ _ (updateSeq l (·.eraseIdxIfInBounds k)) _ _ _
  refine wpAny_updateSeq ho hd ?_ (by rw [List.size_toArray]; exact Nat.le_trans hz (by decide +kernel)) ?_
  · refine wpAny_pure ⟨x, rfl, h _ _ (Heap.SameBut.update ..) (Heap.get?_update_self _ ho (Obj.isFreed_of_seq hd')) ⟨(Obj.cls_mapSeq ..).trans hc, n', ?_⟩ (dict_mapSeq _ _)⟩
    rw [hd']
    congr 1
    simp
  · have e : vs.toArray.eraseIdxIfInBounds k = (vs.eraseIdx k).toArray := by simp
    rw [e, List.size_toArray]
    have h5 := List.length_eraseIdx_le vs k
    exact Nat.le_trans (Nat.le_trans h5 hz) (by decide +kernel)

section
variable {h₀ : Heap} {L : Addr} {m : Str → Option Value} {news : List (Addr × Obj)}
theorem list_range_led {r : Addr} {n : Nat} {t u v : Tok} {Q : Value → Shared → Prop} (F : Fr h₀ L s.heap m) (N : News h₀ L s.heap news) (hh : A.handled = none) (hr : IsRange s.heap r 0 (n : Int) 1 t u v) (hn : n ≤ 4096)
    (h : ∀ D od h' tk vs, Fr h₀ L h' m → News h₀ L h' ((D, od) :: news) → (∀ p ∈ news, p.1 ≠ D) → IsListObj od vs → od.dict = none → IntsAre vs ((List.range n).map fun j => ((j : Nat) : Int)) → Q (.ref D) { s with heap := h', toks := tk }) :
    wpAny (model prog w) A (call (.type "list") [.ref r]) Q E s := by
  have hsz : Builtin.Range.rangeSize 0 (n : Int) 1 = (n : Int) := by rw [PyProof.Rows.rangeSize_nat, Int.sub_zero, Int.toNat_natCast]
  refine call_list_range (n := n) hh hr (small_n hn) hsz (Nat.le_trans hn (by decide)) fun h' tk acc c' hk hl hacc => ?_
  have lL : L < s.heap.objs.size := F.ns.lt
  refine h s.heap.objs.size { cls := .type "list", dict := none, data := .seq acc c', slots := #[] } h' tk acc.toList (F.keeps hk) (fun p hp => ?_) (fun p hp => Nat.ne_of_lt (Heap.lt_size (N p hp).1)) ⟨rfl, c', by simp⟩ rfl ?_
  · rcases List.mem_cons.mp hp with rfl | hp
    · refine ⟨hl, Nat.ne_of_gt lL, ?_⟩
      cases q : h₀.get? s.heap.objs.size with
      | none => rfl
      | some o => exact absurd (Heap.lt_size (F.keep _ _ q)) (Nat.lt_irrefl _)
    · exact ⟨hk _ _ (N p hp).1, (N p hp).2⟩
  · refine intsAre_of_get (by simp [hacc.1]) fun i v hv => ?_
    have hi : i < n := by
      have := (List.getElem?_eq_some_iff.mp hv).1
      simpa [hacc.1] using this
    obtain ⟨t', e⟩ := hacc.2 i v (by simpa using hv)
    exact ⟨t', by rw [e]; simp [List.getD_eq_getElem?_getD, hi]⟩
end
end

section
variable {w : World} {p : Program} {loose : List Str} {mean : ExcName → Option Value} {mg mb : Str → Option Value} {A : Around} {s : Shared} {Q E : Value → Shared → Prop} {cenv : Env}
theorem el_lenlist {nm : Str} {l : Addr} {items : Array Value} {p1 p3 p4 : Pos} (X : (hd.heap_39 w.params).In s.heap) (T : Top p loose mean mg mb s.heap)
    (hk : cenv.scope.kind = .function) (hg : cenv.globals = mainGlobals) (hb : cenv.builtins = builtinsNs) (hl : cenv.kindOf (Str.ofString "len") = some .globalImplicit)
    (hnm : ∀ Q E, Q (.ref l) s → wpAny (model PySem.Challenge.rw_jb0038_01.row.prog w) A (eval (.Name nm p1) cenv) Q E s)
    (hli : s.heap.IsList l items) (hfit : items.size ≤ 4096) (h : ∀ t tk, Q (.int (items.size : Nat) t) { s with toks := tk }) (hst : starEach [.Name nm p1] cenv = (false, eval (.Name nm p1) cenv) :: starEach [] cenv) :
    wpAny (model PySem.Challenge.rw_jb0038_01.row.prog w) A (eval (.Call (.Name (Str.ofString "len") p3) [.Name nm p1] [] p4) cenv) Q E s := by
  refine Call_ ?_
  refine Name_function_global hk hl (loadGlobal_builtin (by rw [hg]; exact T.g) (mg_none_of X T.g (len_name w)) (by rw [hb]; exact T.b) (v := .builtin "len") ((T.builtins _ (by decide)).trans (by boot_by_name)) ?_)
  refine callWith_method1 (first := []) ?_ hst
  refine args_cons ?_ hst
  refine hnm _ _ ?_
  refine args_nil ?_
  exact PyProof.Rows.len_list hli (int_hi (by assumption)) (h _ _)
end
theorem pick_eq (ns : List Int) (i : Nat) (h : 0 < (freeN ns i).length) : (numAt ns (10 + ((i : Nat) : Int))).fmod (((freeN ns i).length : Nat) : Int) = ((pickN ns i : Nat) : Int) := by
  unfold pickN
  exact fmodN' _ _ h
end Mine
end

-- part KF
section
namespace Mine
set_option maxRecDepth 100000
set_option linter.unusedVariables false

-- the field of 256
theorem exp_log {a : Nat} (h0 : a ≠ 0) (h : a < 256) : expN (logN a) = a := by
  have : ((List.range 256).all fun a => a == 0 || expN (logN a) == a) = true := by decide +kernel
  have := List.all_eq_true.mp this a (List.mem_range.mpr h)
  simpa [h0] using this
theorem log_exp {k : Nat} (h : k < 255) : logN (expN k) = k := by
  have : ((List.range 255).all fun k => logN (expN k) == k) = true := by decide +kernel
  have := List.all_eq_true.mp this k (List.mem_range.mpr h)
  simpa using this
theorem exp_ne {k : Nat} (h : k < 255) : expN k ≠ 0 := by
  have : ((List.range 255).all fun k => expN k != 0) = true := by decide +kernel
  have := List.all_eq_true.mp this k (List.mem_range.mpr h)
  simpa using this
theorem log_lt (a : Nat) : logN a < 255 := Nat.mod_lt _ (by decide)
theorem log_zero : logN 0 = 0 := by decide +kernel
theorem log_one : logN 1 = 0 := by decide +kernel
theorem exp_zero : expN 0 = 1 := by decide +kernel

noncomputable def mulF (a b : Nat) : Nat := if a = 0 ∨ b = 0 then 0 else expN ((logN a + logN b) % 255)
theorem mulF_lt (a b : Nat) : mulF a b < 256 := by
  unfold mulF; split
  · decide
  · exact expN_lt _
theorem mulF_zero (a : Nat) : mulF a 0 = 0 := by simp [mulF]
theorem zero_mulF (a : Nat) : mulF 0 a = 0 := by simp [mulF]
theorem mulF_comm (a b : Nat) : mulF a b = mulF b a := by
  unfold mulF
  simp only [Nat.add_comm (logN a), or_comm (a := a = 0)]
theorem mulF_of {a b : Nat} (ha : a ≠ 0) (hb : b ≠ 0) : mulF a b = expN ((logN a + logN b) % 255) := by
  unfold mulF; rw [if_neg (by simp [ha, hb])]
theorem mulF_ne {a b : Nat} (ha : a ≠ 0) (hb : b ≠ 0) : mulF a b ≠ 0 := by
  unfold mulF
  rw [if_neg (by simp [ha, hb])]
  exact exp_ne (Nat.mod_lt _ (by decide))
theorem mulF_log {a b : Nat} (ha : a ≠ 0) (hb : b ≠ 0) : logN (mulF a b) = (logN a + logN b) % 255 := by
  unfold mulF
  rw [if_neg (by simp [ha, hb])]
  exact log_exp (Nat.mod_lt _ (by decide))
theorem mulF_assoc (a b c : Nat) : mulF (mulF a b) c = mulF a (mulF b c) := by
  by_cases ha : a = 0
  · subst ha; simp [zero_mulF]
  by_cases hb : b = 0
  · subst hb; simp [zero_mulF, mulF_zero]
  by_cases hc : c = 0
  · subst hc; simp [mulF_zero]
  rw [mulF_of (mulF_ne ha hb) hc, mulF_of ha (mulF_ne hb hc), mulF_log ha hb, mulF_log hb hc, Nat.mod_add_mod, Nat.add_mod_mod, Nat.add_assoc]
theorem one_mulF {a : Nat} (h : a < 256) : mulF 1 a = a := by
  unfold mulF
  by_cases ha : a = 0
  · simp [ha]
  · rw [if_neg (by simp [ha]), log_one, Nat.zero_add, Nat.mod_eq_of_lt (log_lt a), exp_log ha h]
theorem mulF_one {a : Nat} (h : a < 256) : mulF a 1 = a := by rw [mulF_comm, one_mulF h]
noncomputable def invF (a : Nat) : Nat := expN ((255 - logN a) % 255)
theorem invF_lt (a : Nat) : invF a < 256 := expN_lt _
theorem invF_ne (a : Nat) : invF a ≠ 0 := exp_ne (Nat.mod_lt _ (by decide))
theorem mul_inv {a : Nat} (ha : a ≠ 0) : mulF a (invF a) = 1 := by
  unfold mulF
  rw [if_neg (by simp [ha, invF_ne])]
  unfold invF
  rw [log_exp (Nat.mod_lt _ (by decide)), Nat.add_mod_mod, Nat.add_sub_cancel' (Nat.le_of_lt (log_lt a)), Nat.mod_self, exp_zero]

-- multiplication by 3 is linear
noncomputable def m3 (b : Nat) : Nat := xt b ^^^ b
theorem xor_mul2 (a b : Nat) : (a ^^^ b) * 2 = a * 2 ^^^ b * 2 := by
  have := Nat.shiftLeft_xor_distrib (a := a) (b := b) (i := 1)
  simpa [Nat.shiftLeft_eq] using this
theorem xt_xor {a b : Nat} (ha : a < 256) (hb : b < 256) : xt (a ^^^ b) = xt a ^^^ xt b := by
  unfold xt
  have e1 := xor_mul2 a b
  have e2 : (a ^^^ b) / 128 = (a / 128) ^^^ (b / 128) := by
    have := Nat.xor_div_two_pow (a := a) (b := b) (n := 7)
    simpa using this
  rw [e1, e2]
  have h1 : a / 128 < 2 := Nat.div_lt_of_lt_mul ha
  have h2 : b / 128 < 2 := Nat.div_lt_of_lt_mul hb
  generalize a / 128 = u at *
  generalize b / 128 = v at *
  have key : ((u ^^^ v) * 283) = (u * 283) ^^^ (v * 283) := by
    have : ∀ u v : Fin 2, ((u.val ^^^ v.val) * 283) = (u.val * 283) ^^^ (v.val * 283) := by decide
    exact this ⟨u, h1⟩ ⟨v, h2⟩
  rw [key]
  ac_rfl
theorem m3_xor {a b : Nat} (ha : a < 256) (hb : b < 256) : m3 (a ^^^ b) = m3 a ^^^ m3 b := by
  unfold m3
  rw [xt_xor ha hb]
  ac_rfl
theorem m3_lt {a : Nat} (ha : a < 256) : m3 a < 256 := Nat.xor_lt_two_pow (n := 8) (xt_lt ha) ha
noncomputable def m3k : Nat → Nat → Nat
  | 0, b => b
  | k + 1, b => m3 (m3k k b)
theorem m3k_lt : ∀ (k : Nat) {b : Nat}, b < 256 → m3k k b < 256
  | 0, _, h => h
  | k + 1, _, h => m3_lt (m3k_lt k h)
theorem m3k_xor : ∀ (k : Nat) {a b : Nat}, a < 256 → b < 256 → m3k k (a ^^^ b) = m3k k a ^^^ m3k k b
  | 0, _, _, _, _ => rfl
  | k + 1, a, b, ha, hb => by
    show m3 (m3k k (a ^^^ b)) = _
    rw [m3k_xor k ha hb, m3_xor (m3k_lt k ha) (m3k_lt k hb)]; rfl
theorem m3_exp {k : Nat} (h : k < 255) : m3 (expN k) = expN ((k + 1) % 255) := by
  have : ((List.range 255).all fun k => m3 (expN k) == expN ((k + 1) % 255)) = true := by decide +kernel
  have := List.all_eq_true.mp this k (List.mem_range.mpr h)
  simpa using this
theorem m3k_exp : ∀ (j k : Nat), k < 255 → m3k j (expN k) = expN ((j + k) % 255)
  | 0, k, h => by show expN k = _; rw [Nat.zero_add, Nat.mod_eq_of_lt h]
  | j + 1, k, h => by
    show m3 (m3k j (expN k)) = _
    rw [m3k_exp j k h, m3_exp (Nat.mod_lt _ (by decide)), Nat.mod_add_mod, Nat.add_right_comm]
theorem m3k_zero : ∀ j, m3k j 0 = 0
  | 0 => rfl
  | j + 1 => by show m3 (m3k j 0) = 0; rw [m3k_zero j]; decide
theorem mulF_m3k {a b : Nat} (ha : a ≠ 0) (hb : b < 256) : mulF a b = m3k (logN a) b := by
  by_cases h0 : b = 0
  · subst h0; rw [mulF_zero, m3k_zero]
  · unfold mulF
    rw [if_neg (by simp [ha, h0])]
    have e := m3k_exp (logN a) (logN b) (log_lt b)
    rw [exp_log h0 hb] at e
    exact e.symm
theorem mulF_xor (a : Nat) {b c : Nat} (hb : b < 256) (hc : c < 256) : mulF a (b ^^^ c) = mulF a b ^^^ mulF a c := by
  by_cases ha : a = 0
  · subst ha; simp [zero_mulF]
  · rw [mulF_m3k ha hb, mulF_m3k ha hc, mulF_m3k ha (Nat.xor_lt_two_pow (n := 8) hb hc), m3k_xor _ hb hc]
theorem xor_mulF (a : Nat) {b c : Nat} (hb : b < 256) (hc : c < 256) : mulF (b ^^^ c) a = mulF b a ^^^ mulF c a := by
  rw [mulF_comm, mulF_xor a hb hc, mulF_comm a b, mulF_comm a c]
theorem mulF_two {b : Nat} (hb : b < 256) : mulF 2 b = xt b := by
  have : ((List.range 256).all fun b => mulF 2 b == xt b) = true := by decide +kernel
  have := List.all_eq_true.mp this b (List.mem_range.mpr hb)
  simpa using this

-- the law's own product, octet by octet
theorem xor_bit (f : Nat) : f = f / 2 * 2 ^^^ f % 2 := by
  apply Nat.eq_of_testBit_eq
  intro i
  cases i with
  | zero => simp [Nat.testBit_zero]
  | succ i =>
    have h1 : (f / 2 * 2) / 2 = f / 2 := Nat.mul_div_cancel _ (by decide)
    have h2 : (f % 2) / 2 = 0 := Nat.div_eq_of_lt (Nat.mod_lt _ (by decide))
    rw [Nat.testBit_xor, Nat.testBit_succ, Nat.testBit_succ, Nat.testBit_succ, h1, h2]
    simp
noncomputable def timesB (b f t : Nat) : Nat := if f = 0 then t else timesB (xt b) (f / 2) (if f % 2 = 1 then t ^^^ b else t)
termination_by f
decreasing_by exact Nat.div_lt_self (Nat.pos_of_ne_zero (by assumption)) (by decide)
theorem timesB_eq : ∀ (f b t : Nat), f < 256 → b < 256 → timesB b f t = t ^^^ mulF b f := by
  intro f
  induction f using Nat.strongRecOn with
  | ind f ih =>
    intro b t hf hb
    rw [timesB]
    by_cases h : f = 0
    · rw [if_pos h, h, mulF_zero]; simp
    · have h2 : f / 2 < 128 := Nat.div_lt_of_lt_mul hf
      have hle : f / 2 * 2 ≤ f := Nat.div_mul_le_self f 2
      rw [if_neg h, ih (f / 2) (Nat.div_lt_self (Nat.pos_of_ne_zero h) (by decide)) _ _ (Nat.lt_trans h2 (by decide)) (xt_lt hb)]
      have e1 : mulF (xt b) (f / 2) = mulF b (f / 2 * 2) := by
        rw [← mulF_two hb, mulF_comm 2 b, mulF_assoc, mulF_two (Nat.lt_trans h2 (by decide))]
        congr 1
        unfold xt
        rw [Nat.div_eq_of_lt h2]
        simp
      rw [e1]
      have e2 : f = f / 2 * 2 ^^^ f % 2 := xor_bit f
      by_cases hodd : f % 2 = 1
      · rw [if_pos hodd]
        have e3 : mulF b f = mulF b (f / 2 * 2) ^^^ mulF b 1 := by
          conv => lhs; rw [e2, hodd]
          exact mulF_xor b (Nat.lt_of_le_of_lt hle hf) (by decide)
        rw [e3, mulF_one hb]
        ac_rfl
      · rw [if_neg hodd]
        have h0 : f % 2 = 0 := (Nat.mod_two_eq_zero_or_one f).resolve_right hodd
        rw [Nat.div_mul_cancel (Nat.dvd_of_mod_eq_zero h0)]
end Mine
end

-- part KG
section
namespace Mine
set_option maxRecDepth 100000
set_option linter.unusedVariables false
-- polynomials of fewer than k coefficients, as functions
noncomputable def Pol : Nat → (Nat → Nat) → Prop
  | 0, f => ∀ x, x < 256 → f x = 0
  | k + 1, f => ∃ g c, c < 256 ∧ Pol k g ∧ ∀ x, x < 256 → f x = mulF x (g x) ^^^ c
theorem xor_lt8 {a b : Nat} (ha : a < 256) (hb : b < 256) : a ^^^ b < 256 := Nat.xor_lt_two_pow (n := 8) ha hb
theorem Pol.lt {k : Nat} {f : Nat → Nat} (h : Pol k f) (x : Nat) (hx : x < 256) : f x < 256 := by
  cases k with
  | zero => rw [h x hx]; decide
  | succ k =>
    obtain ⟨g, c, hc, _, e⟩ := h
    rw [e x hx]; exact xor_lt8 (mulF_lt _ _) hc
theorem Pol.congr {k : Nat} {f g : Nat → Nat} (h : Pol k f) (e : ∀ x, x < 256 → g x = f x) : Pol k g := by
  cases k with
  | zero => exact fun x hx => (e x hx).trans (h x hx)
  | succ k =>
    obtain ⟨g', c, hc, hg, e'⟩ := h
    exact ⟨g', c, hc, hg, fun x hx => (e x hx).trans (e' x hx)⟩
theorem Pol.zero (k : Nat) : Pol k fun _ => 0 := by
  induction k with
  | zero => exact fun _ _ => rfl
  | succ k ih => exact ⟨fun _ => 0, 0, by decide, ih, fun x _ => by rw [mulF_zero]; rfl⟩
theorem Pol.const {c : Nat} (hc : c < 256) (k : Nat) : Pol (k + 1) fun _ => c :=
  ⟨fun _ => 0, c, hc, Pol.zero k, fun x _ => by rw [mulF_zero]; simp⟩
theorem xor4 (a b c d : Nat) : a ^^^ c ^^^ (b ^^^ d) = a ^^^ b ^^^ (c ^^^ d) := by
  rw [Nat.xor_assoc, Nat.xor_assoc, ← Nat.xor_assoc c, Nat.xor_comm c b, Nat.xor_assoc b]
theorem Pol.add {k : Nat} : ∀ {f g : Nat → Nat}, Pol k f → Pol k g → Pol k fun x => f x ^^^ g x := by
  induction k with
  | zero => exact fun h1 h2 x hx => by show _ ^^^ _ = 0; rw [h1 x hx, h2 x hx]; rfl
  | succ k ih =>
    rintro f g ⟨f', c, hc, hf, e1⟩ ⟨g', d, hd, hg, e2⟩
    refine ⟨_, c ^^^ d, xor_lt8 hc hd, ih hf hg, fun x hx => ?_⟩
    dsimp only
    rw [e1 x hx, e2 x hx, mulF_xor x (hf.lt x hx) (hg.lt x hx), xor4]
theorem Pol.smul (r : Nat) {k : Nat} : ∀ {f : Nat → Nat}, Pol k f → Pol k fun x => mulF r (f x) := by
  induction k with
  | zero => exact fun h x hx => by show mulF r _ = 0; rw [h x hx, mulF_zero]
  | succ k ih =>
    rintro f ⟨f', c, hc, hf, e⟩
    refine ⟨_, mulF r c, mulF_lt _ _, ih hf, fun x hx => ?_⟩
    dsimp only
    rw [e x hx, mulF_xor r (mulF_lt _ _) hc, ← mulF_assoc, mulF_comm r x, mulF_assoc]
theorem Pol.pad {k : Nat} : ∀ {f : Nat → Nat}, Pol k f → Pol (k + 1) f := by
  induction k with
  | zero => exact fun h => ⟨fun _ => 0, 0, by decide, fun _ _ => rfl, fun x hx => by rw [h x hx, mulF_zero]; rfl⟩
  | succ k ih =>
    rintro f ⟨g, c, hc, hg, e⟩
    exact ⟨g, c, hc, ih hg, e⟩
theorem Pol.lin {k : Nat} {f : Nat → Nat} {r : Nat} (hr : r < 256) (h : Pol k f) : Pol (k + 1) fun x => mulF (r ^^^ x) (f x) := by
  have h1 : Pol (k + 1) fun x => mulF x (f x) := ⟨f, 0, by decide, h, fun x _ => by simp⟩
  have h2 : Pol (k + 1) fun x => mulF r (f x) := (h.smul r).pad
  refine (h2.add h1).congr fun x hx => ?_
  rw [xor_mulF _ hr hx]
theorem xor_self_cancel (a b : Nat) : a ^^^ b ^^^ b = a := by rw [Nat.xor_assoc, Nat.xor_self, Nat.xor_zero]
theorem xor4_end (a d c : Nat) : a ^^^ c ^^^ (c ^^^ d) = a ^^^ d := by rw [← Nat.xor_assoc, xor_self_cancel]
theorem Pol.div {r : Nat} (hr : r < 256) {k : Nat} : ∀ {f : Nat → Nat}, Pol (k + 1) f → ∃ q, Pol k q ∧ ∀ x, x < 256 → f x ^^^ f r = mulF (x ^^^ r) (q x) := by
  induction k with
  | zero =>
    rintro f ⟨g, c, hc, hg, e⟩
    exact ⟨fun _ => 0, fun _ _ => rfl, fun x hx => by rw [e x hx, e r hr, hg x hx, hg r hr, mulF_zero, mulF_zero, mulF_zero, Nat.xor_self]⟩
  | succ k ih =>
    rintro f ⟨g, c, hc, hg, e⟩
    obtain ⟨q, hq, eq⟩ := ih hg
    refine ⟨fun x => mulF x (q x) ^^^ g r, ⟨q, g r, hg.lt r hr, hq, fun _ _ => rfl⟩, fun x hx => ?_⟩
    have hgr := hg.lt r hr
    dsimp only
    rw [e x hx, e r hr]
    have e1 : g x = mulF (x ^^^ r) (q x) ^^^ g r := by rw [← eq x hx, xor_self_cancel]
    rw [e1, mulF_xor _ (mulF_lt _ _) hgr, mulF_xor _ (mulF_lt _ _) hgr, ← mulF_assoc, ← mulF_assoc, mulF_comm x (x ^^^ r), xor_mulF (g r) hx hr]
    rw [Nat.xor_comm (mulF r (g r)) c, xor4_end, Nat.xor_assoc]
theorem mulF_eq_zero {a b : Nat} (h : mulF a b = 0) (ha : a ≠ 0) : b = 0 := by
  by_cases hb : b = 0
  · exact hb
  · exact absurd h (mulF_ne ha hb)
theorem xor_ne {a b : Nat} (h : a ≠ b) : a ^^^ b ≠ 0 := by
  intro e
  apply h
  have : a ^^^ b ^^^ b = 0 ^^^ b := by rw [e]
  rw [xor_self_cancel, Nat.zero_xor] at this
  exact this
theorem Pol.roots {rs : List Nat} : ∀ {f : Nat → Nat}, Pol rs.length f → rs.Nodup → (∀ r ∈ rs, r < 256) → (∀ r ∈ rs, f r = 0) → ∀ x, x < 256 → f x = 0 := by
  induction rs with
  | nil => exact fun h _ _ _ x hx => h x hx
  | cons r rs ih =>
    intro f h hn hl h0 x hx
    obtain ⟨q, hq, e⟩ := Pol.div (k := rs.length) (hl r (.head _)) h
    have hn' := List.nodup_cons.mp hn
    have e' : ∀ x, x < 256 → f x = mulF (x ^^^ r) (q x) := fun x hx => by
      have := e x hx
      rw [h0 r (.head _), Nat.xor_zero] at this
      exact this
    have hz := ih hq hn'.2 (fun r hr => hl r (.tail _ hr)) (fun r' hr' => by
      refine mulF_eq_zero (a := r' ^^^ r) ?_ (xor_ne fun e => hn'.1 (e ▸ hr'))
      rw [← e' r' (hl r' (.tail _ hr')), h0 r' (.tail _ hr')]) x hx
    rw [e' x hx, hz, mulF_zero]

-- Horner
noncomputable def hor (cs : List Nat) (x : Nat) : Nat := cs.foldl (fun t c => mulF t x ^^^ c) 0
theorem Pol.foldl {cs : List Nat} : ∀ {k : Nat} {f : Nat → Nat}, (∀ c ∈ cs, c < 256) → Pol k f → Pol (k + cs.length) fun x => cs.foldl (fun t c => mulF t x ^^^ c) (f x) := by
  induction cs with
  | nil => exact fun _ h => h
  | cons c cs ih =>
    intro k f hl h
    have h1 : Pol (k + 1) fun x => mulF (f x) x ^^^ c := ⟨f, c, hl c (.head _), h, fun x _ => by rw [mulF_comm]⟩
    have h2 := ih (fun c hc => hl c (.tail _ hc)) h1
    rw [List.length_cons, Nat.add_comm cs.length 1, ← Nat.add_assoc]
    exact h2
theorem Pol.hor {cs : List Nat} (h : ∀ c ∈ cs, c < 256) : Pol cs.length (hor cs) := by
  have := Pol.foldl (cs := cs) (k := 0) (f := fun _ => 0) h fun _ _ => rfl
  rw [Nat.zero_add] at this
  exact this

-- Lagrange
noncomputable def prodF : List Nat → Nat
  | [] => 1
  | a :: l => mulF a (prodF l)
noncomputable def sumF (f : Nat → Nat) : List Nat → Nat
  | [] => 0
  | a :: l => f a ^^^ sumF f l
noncomputable def others (xs : List Nat) (a : Nat) : List Nat := xs.filter (· != a)
noncomputable def lagB (xs : List Nat) (a t : Nat) : Nat := mulF (invF (prodF ((others xs a).map fun b => a ^^^ b))) (prodF ((others xs a).map fun b => b ^^^ t))
theorem prodF_lt (l : List Nat) : prodF l < 256 := by
  cases l with
  | nil => decide
  | cons _ _ => exact mulF_lt _ _
theorem prodF_ne {l : List Nat} (h : ∀ a ∈ l, a ≠ 0) : prodF l ≠ 0 := by
  induction l with
  | nil => decide
  | cons a l ih => exact mulF_ne (h a (.head _)) (ih fun b hb => h b (.tail _ hb))
theorem prodF_zero {l : List Nat} (h : 0 ∈ l) : prodF l = 0 := by
  induction l with
  | nil => cases h
  | cons a l ih =>
    show mulF a (prodF l) = 0
    rcases List.mem_cons.mp h with e | h
    · rw [← e, zero_mulF]
    · rw [ih h, mulF_zero]
theorem prodF_log {l : List Nat} (h : ∀ a ∈ l, a ≠ 0) : prodF l = expN ((l.map logN).sum % 255) := by
  induction l with
  | nil => show 1 = expN 0; rw [exp_zero]
  | cons a l ih =>
    show mulF a (prodF l) = _
    rw [ih fun b hb => h b (.tail _ hb), mulF_of (h a (.head _)) (exp_ne (Nat.mod_lt _ (by decide))), log_exp (Nat.mod_lt _ (by decide))]
    rw [List.map_cons, List.sum_cons, Nat.add_mod_mod]
theorem Pol.prod {l : List Nat} (h : ∀ a ∈ l, a < 256) : Pol (l.length + 1) fun t => prodF (l.map fun b => b ^^^ t) := by
  induction l with
  | nil => exact Pol.const (by decide) 0
  | cons a l ih => exact Pol.lin (h a (.head _)) (ih fun b hb => h b (.tail _ hb))
theorem others_nmem {xs : List Nat} {a : Nat} (h : a ∉ xs) : others xs a = xs := by
  unfold others
  rw [List.filter_eq_self]
  intro b hb
  simp only [bne_iff_ne, ne_eq]
  exact fun e => h (e ▸ hb)
theorem others_hd {b : Nat} {xs : List Nat} (h : b ∉ xs) : others (b :: xs) b = xs := by
  unfold others
  rw [List.filter_cons_of_neg (by simp)]
  exact others_nmem h
theorem others_tl {a b : Nat} {xs : List Nat} (e : ¬ b = a) : others (b :: xs) a = b :: others xs a := List.filter_cons_of_pos (by simpa using e)
theorem others_len {xs : List Nat} {a : Nat} (hn : xs.Nodup) (h : a ∈ xs) : (others xs a).length + 1 = xs.length := by
  induction xs with
  | nil => cases h
  | cons b xs ih =>
    have hn' := List.nodup_cons.mp hn
    by_cases e : b = a
    · subst e
      rw [others_hd hn'.1]; rfl
    · rw [others_tl e]
      exact congrArg (· + 1) (ih hn'.2 ((List.mem_cons.mp h).resolve_left (Ne.symm e)))
theorem others_sum (f : Nat → Nat) {xs : List Nat} {a : Nat} (hn : xs.Nodup) (h : a ∈ xs) : (xs.map f).sum = f a + ((others xs a).map f).sum := by
  induction xs with
  | nil => cases h
  | cons b xs ih =>
    have hn' := List.nodup_cons.mp hn
    by_cases e : b = a
    · subst e
      rw [others_hd hn'.1, List.map_cons, List.sum_cons]
    · rw [others_tl e, List.map_cons, List.map_cons, List.sum_cons, List.sum_cons, ih hn'.2 ((List.mem_cons.mp h).resolve_left (Ne.symm e)), Nat.add_left_comm]
theorem others_lt {xs : List Nat} (h : ∀ a ∈ xs, a < 256) (a : Nat) : ∀ b ∈ others xs a, b < 256 := fun b hb => h b (List.mem_filter.mp hb).1
theorem others_ne {xs : List Nat} {a b : Nat} (h : b ∈ others xs a) : b ≠ a := by
  have := (List.mem_filter.mp h).2
  simpa using this
theorem Pol.lagB {xs : List Nat} (hn : xs.Nodup) (h : ∀ a ∈ xs, a < 256) {a : Nat} (ha : a ∈ xs) : Pol xs.length (lagB xs a) := by
  have := Pol.smul (invF (prodF ((others xs a).map fun b => a ^^^ b))) (Pol.prod (others_lt h a))
  rw [others_len hn ha] at this
  exact this
theorem lagB_self {xs : List Nat} {a : Nat} : Mine.lagB xs a a = 1 := by
  unfold Mine.lagB
  have e : ((others xs a).map fun b => b ^^^ a) = (others xs a).map fun b => a ^^^ b := by
    apply List.map_congr_left; intro b _; exact Nat.xor_comm _ _
  rw [e, mulF_comm]
  refine mul_inv (prodF_ne fun c hc => ?_)
  obtain ⟨b, hb, rfl⟩ := List.mem_map.mp hc
  exact xor_ne (Ne.symm (others_ne hb))
theorem lagB_other {xs : List Nat} {a b : Nat} (hb : b ∈ xs) (hne : b ≠ a) : Mine.lagB xs a b = 0 := by
  unfold Mine.lagB
  have : 0 ∈ (others xs a).map fun c => c ^^^ b := by
    refine List.mem_map.mpr ⟨b, List.mem_filter.mpr ⟨hb, by simpa using hne⟩, Nat.xor_self _⟩
  rw [prodF_zero this, mulF_zero]
theorem sumF_congr {f g : Nat → Nat} {l : List Nat} (h : ∀ a ∈ l, f a = g a) : sumF f l = sumF g l := by
  induction l with
  | nil => rfl
  | cons a l ih =>
    show f a ^^^ sumF f l = g a ^^^ sumF g l
    rw [h a (.head _), ih fun b hb => h b (.tail _ hb)]
theorem sumF_none (v : Nat) {l : List Nat} {b : Nat} (h : b ∉ l) : sumF (fun a => if a = b then v else 0) l = 0 := by
  induction l with
  | nil => rfl
  | cons c l ih =>
    show (if c = b then v else 0) ^^^ sumF _ l = 0
    have hcb : ¬ c = b := fun e => h (by rw [e]; exact .head _)
    rw [if_neg hcb, ih fun q => h (.tail _ q)]; rfl
theorem sumF_one (v : Nat) {l : List Nat} {k : Nat} (hn : l.Nodup) (h : k ∈ l) : sumF (fun a => if a = k then v else 0) l = v := by
  induction l with
  | nil => cases h
  | cons b l ih =>
    have hn' := List.nodup_cons.mp hn
    show (if b = k then v else 0) ^^^ sumF _ l = v
    by_cases e : b = k
    · subst e
      rw [if_pos rfl, sumF_none v hn'.1, Nat.xor_zero]
    · rw [if_neg e, ih hn'.2 ((List.mem_cons.mp h).resolve_left (Ne.symm e)), Nat.zero_xor]
theorem Pol.sumF {k : Nat} {F : Nat → Nat → Nat} {l : List Nat} (h : ∀ a ∈ l, Pol k (F a)) : Pol k fun t => Mine.sumF (fun a => F a t) l := by
  induction l with
  | nil => exact Pol.zero k
  | cons a l ih => exact Pol.add (h a (.head _)) (ih fun b hb => h b (.tail _ hb))
/-- Lagrange's sum gives a polynomial of as many coefficients as there are places -/
theorem lagrange {xs : List Nat} (hn : xs.Nodup) (h : ∀ a ∈ xs, a < 256) {P : Nat → Nat} (hP : Pol xs.length P) {t : Nat} (ht : t < 256) :
    sumF (fun a => mulF (P a) (lagB xs a t)) xs = P t := by
  have h1 : Pol xs.length fun t => sumF (fun a => mulF (P a) (lagB xs a t)) xs := Pol.sumF fun a ha => (Pol.lagB hn h ha).smul (P a)
  have h2 := Pol.roots (rs := xs) (h1.add hP) hn h (fun r hr => by
    have e : sumF (fun a => mulF (P a) (lagB xs a r)) xs = sumF (fun a => if a = r then P r else 0) xs := by
      refine sumF_congr fun a ha => ?_
      by_cases e : a = r
      · subst e; rw [if_pos rfl, lagB_self, mulF_one (hP.lt a (h a ha))]
      · rw [if_neg e, lagB_other hr (Ne.symm e), mulF_zero]
    rw [e, sumF_one _ hn hr, Nat.xor_self]) t ht
  exact Classical.byContradiction fun q => xor_ne q h2
theorem map_map_sum (f g : Nat → Nat) (l : List Nat) : ((l.map f).map g).sum = (l.map fun b => g (f b)).sum := by
  rw [List.map_map]; rfl
/-- the exponent that the program reckons -/
theorem lagB_exp {xs : List Nat} (hn : xs.Nodup) {a t : Nat} (ha : a ∈ xs) (ht : t ∉ xs) :
    expN (((((xs.map fun b => logN (b ^^^ t)).sum : Nat) - (logN (a ^^^ t) : Nat) - ((xs.map fun b => logN (a ^^^ b)).sum : Nat) : Int) % 255).toNat) = lagB xs a t := by
  unfold lagB
  have n1 : ∀ c ∈ (others xs a).map fun b => b ^^^ t, c ≠ 0 := by
    intro c hc
    obtain ⟨b, hb, rfl⟩ := List.mem_map.mp hc
    have hbt : b ≠ t := fun e => ht (e ▸ (List.mem_filter.mp hb).1)
    exact xor_ne hbt
  have n2 : ∀ c ∈ (others xs a).map fun b => a ^^^ b, c ≠ 0 := by
    intro c hc
    obtain ⟨b, hb, rfl⟩ := List.mem_map.mp hc
    exact xor_ne (Ne.symm (others_ne hb))
  rw [others_sum (fun b => logN (b ^^^ t)) hn ha, others_sum (fun b => logN (a ^^^ b)) hn ha, prodF_log n1, prodF_log n2, map_map_sum, map_map_sum, Nat.xor_self, log_zero]
  generalize ((others xs a).map fun b => logN (b ^^^ t)).sum = A
  generalize ((others xs a).map fun b => logN (a ^^^ b)).sum = B
  generalize logN (a ^^^ t) = c
  rw [mulF_of (invF_ne _) (exp_ne (Nat.mod_lt _ (by decide)))]
  unfold invF
  rw [log_exp (Nat.mod_lt _ (by decide)), log_exp (Nat.mod_lt _ (by decide)), log_exp (Nat.mod_lt _ (by decide))]
  congr 1
  omega
end Mine
end

-- part KH
section
open PySem PySem.W PySem.Calls PyProof.Rows
namespace Mine
set_option maxRecDepth 100000
set_option linter.unusedVariables false

/-- the octet of one lane -/
noncomputable def lane (k a : Nat) : Nat := a / 256 ^ k % 256
theorem lane_lt (k a : Nat) : lane k a < 256 := Nat.mod_lt _ (by decide)
theorem lane_zero (k : Nat) : lane k 0 = 0 := by simp [lane]
theorem p256N (k : Nat) : 256 ^ k = 2 ^ (8 * k) := by rw [Nat.pow_mul]
theorem lane_xor (k a b : Nat) : lane k (a ^^^ b) = lane k a ^^^ lane k b := by
  unfold lane
  rw [p256N, Nat.xor_div_two_pow]
  exact Nat.xor_mod_two_pow (n := 8)
theorem lane_low {x r : Nat} (hx : x < 256) : lane 0 (x + 256 * r) = x := by unfold lane; rw [Nat.pow_zero, Nat.div_one, join_mod hx]
theorem lane_up {x r : Nat} (k : Nat) (hx : x < 256) : lane (k + 1) (x + 256 * r) = lane k r := by
  unfold lane
  rw [Nat.pow_succ', ← Nat.div_div_eq_div_mul, join_div hx]
theorem lane_self {x : Nat} (hx : x < 256) : lane 0 x = x := by unfold lane; rw [Nat.pow_zero, Nat.div_one, Nat.mod_eq_of_lt hx]
theorem lane_dbl {k a : Nat} (hk : k < 3) (ha : a < 2 ^ 24) : lane k (dblN a) = xt (lane k a) := by
  obtain ⟨e, hx, hy, hz⟩ := split24 ha
  generalize a % 256 = x at *
  generalize a / 256 % 256 = y at *
  generalize a / 256 / 256 = z at *
  subst e
  rw [dblN_eq hx hy hz]
  cases k with
  | zero => rw [lane_low hx, lane_low (xt_lt hx)]
  | succ k =>
    rw [lane_up k hx, lane_up k (xt_lt hx)]
    cases k with
    | zero => rw [lane_low hy, lane_low (xt_lt hy)]
    | succ k =>
      rw [lane_up k hy, lane_up k (xt_lt hy)]
      cases k with
      | zero => rw [lane_self hz, lane_self (xt_lt hz)]
      | succ k => exact absurd hk (Nat.not_lt.mpr (Nat.le_add_left 3 k))
theorem lane_times {k : Nat} (hk : k < 3) : ∀ (f a t : Nat), a < 2 ^ 24 → lane k (timesN a f t) = timesB (lane k a) f (lane k t) := by
  intro f
  induction f using Nat.strongRecOn with
  | ind f ih =>
    intro a t ha
    rw [timesN, timesB]
    by_cases h : f = 0
    · rw [if_pos h, if_pos h]
    · rw [if_neg h, if_neg h, ih (f / 2) (Nat.div_lt_self (Nat.pos_of_ne_zero h) (by decide)) _ _ (dblN_lt ha), lane_dbl hk ha]
      congr 1
      split
      · rw [lane_xor]
      · rfl
theorem lane_value_from {k x : Nat} (hk : k < 3) (hx : x < 256) : ∀ (cs : List Nat) (t : Nat), t < 2 ^ 24 → (∀ c ∈ cs, c < 2 ^ 24) →
    lane k (cs.foldl (fun t l => timesN t x 0 ^^^ l) t) = (cs.map (lane k)).foldl (fun t c => mulF t x ^^^ c) (lane k t)
  | [], _, _, _ => rfl
  | c :: cs, t, ht, h => by
    rw [List.foldl_cons, List.map_cons, List.foldl_cons, lane_value_from hk hx cs _ (Nat.xor_lt_two_pow (dbl_times_lt _ _ _ ht (by decide)) (h c (.head _))) fun c hc => h c (.tail _ hc)]
    congr 1
    rw [lane_xor, lane_times hk _ _ _ ht, timesB_eq _ _ _ hx (lane_lt _ _), lane_zero, Nat.zero_xor]
theorem lane_value {k x : Nat} {cs : List Nat} (hk : k < 3) (hx : x < 256) (h : ∀ c ∈ cs, c < 2 ^ 24) : lane k (valueN cs x) = hor (cs.map (lane k)) x := by
  unfold valueN hor
  rw [lane_value_from hk hx cs 0 (by decide) h, lane_zero]

/-- the lanes, the highest first -/
noncomputable def lanes (z : Nat) : List Nat := (List.range z).reverse
theorem octets_lanes (a z : Nat) : octets (a : Int) z = bytesN ((lanes z).map fun k => lane k a) := by
  unfold octets bytesN lanes
  congr 1
  rw [KTBy.little_eq, List.map_reverse, List.map_reverse, List.map_reverse, List.map_map, List.map_map]
  congr 1
  refine List.map_congr_left fun k hk => ?_
  have hkz := List.mem_range.mp hk
  show (((a : Int) % 256 ^ z / 256 ^ k % 256).toNat).toUInt8 = (lane k a).toUInt8
  congr 1
  have e1 : ((a : Int) % 256 ^ z / 256 ^ k % 256) = ((a % 256 ^ z / 256 ^ k % 256 : Nat) : Int) := by
    have p1 : ∀ n : Nat, (256 : Int) ^ n = ((256 ^ n : Nat) : Int) := fun n => by rw [Int.natCast_pow]; rfl
    rw [p1, p1]
    rfl
  rw [e1, Int.toNat_natCast]
  unfold lane
  have e2 : z = k + (z - k - 1 + 1) := by rw [Nat.sub_add_cancel (Nat.sub_pos_of_lt hkz), Nat.add_sub_cancel' (Nat.le_of_lt hkz)]
  rw [e2, Nat.pow_add, Nat.mod_mul_right_div_self, Nat.pow_succ, Nat.mul_comm (256 ^ _) 256, Nat.mod_mul_right_mod]
theorem octets_list (a z : Nat) : (octets (a : Int) z).toList.map (·.toNat) = (lanes z).map fun k => lane k a := by
  rw [octets_lanes]
  unfold bytesN
  show List.map _ (List.map _ _) = _
  rw [List.map_map, List.map_map]
  refine List.map_congr_left fun k _ => ?_
  show ((lane k a).toUInt8).toNat = lane k a
  have := lane_lt k a
  simp only [Nat.toUInt8, UInt8.toNat_ofNat']
  exact Nat.mod_eq_of_lt this
theorem octets_size (a z : Nat) : (octets (a : Int) z).size = z := by
  rw [octets_lanes, bytesN_size]; simp [lanes]

theorem byteStep_mul {l v i : Nat} (hl : l < 255) : byteStep l v i = i ^^^ mulF v (expN l) := by
  unfold byteStep
  by_cases h : v = 0
  · subst h; rw [zero_mulF]; simp
  · rw [if_pos h, mulF_of h (exp_ne hl), log_exp hl]
theorem ipStep_map {l : Nat} (ks : List Nat) (d r : Nat → Nat) : ipStep l (ks.map d) (ks.map r) = ks.map fun k => byteStep l (d k) (r k) := by
  unfold ipStep
  induction ks with
  | nil => rfl
  | cons k ks ih => simp only [List.map_cons, List.zipWith_cons_cons]; rw [ih]
theorem sum_cast (l : List Nat) : ((l.map fun (n : Nat) => (n : Int)).sum) = ((l.sum : Nat) : Int) := by
  induction l with
  | nil => rfl
  | cons a l ih => simp only [List.map_cons, List.sum_cons, ih]; exact (Int.natCast_add _ _).symm

/-- the shares of the places -/
noncomputable def ptsOf (cs : List Nat) (z : Nat) (xs : List Nat) : List (Nat × Array UInt8) := xs.map fun a => (a, octets ((valueN cs a : Nat) : Int) z)
theorem lbe_lt (pts : List (Nat × Array UInt8)) (x0 xi : Nat) : lbe pts x0 xi < 255 := by
  unfold lbe
  have h1 := Int.emod_lt_of_pos ((pts.map fun q => ((logN (q.1 ^^^ x0) : Nat) : Int)).sum - (logN (xi ^^^ x0) : Nat) - (pts.map fun q => ((logN (xi ^^^ q.1) : Nat) : Int)).sum) (show (0 : Int) < 255 by decide)
  have h2 := Int.emod_nonneg ((pts.map fun q => ((logN (q.1 ^^^ x0) : Nat) : Int)).sum - (logN (xi ^^^ x0) : Nat) - (pts.map fun q => ((logN (xi ^^^ q.1) : Nat) : Int)).sum) (show (255 : Int) ≠ 0 by decide)
  exact (Int.toNat_lt h2).mpr h1
theorem lbe_ptsOf (cs : List Nat) (z : Nat) (xs : List Nat) (x a : Nat) : lbe (ptsOf cs z xs) x a = (((((xs.map fun b => logN (b ^^^ x)).sum : Nat) - (logN (a ^^^ x) : Nat) - ((xs.map fun b => logN (a ^^^ b)).sum : Nat) : Int) % 255).toNat) := by
  unfold lbe ptsOf
  rw [List.map_map, List.map_map, ← sum_cast, ← sum_cast, List.map_map, List.map_map]
  rfl
theorem ipLoop_from (cs : List Nat) (z x : Nat) (pts : List (Nat × Array UInt8)) : ∀ (xs : List Nat) (r : Nat → Nat),
    (ptsOf cs z xs).foldl (fun r q => ipStep (lbe pts x q.1) (q.2.toList.map (·.toNat)) r) ((lanes z).map r) = (lanes z).map fun k => r k ^^^ sumF (fun a => mulF (lane k (valueN cs a)) (expN (lbe pts x a))) xs
  | [], r => by
    show (lanes z).map r = _
    refine List.map_congr_left fun k _ => ?_
    show r k = r k ^^^ 0
    rw [Nat.xor_zero]
  | a :: xs, r => by
    show List.foldl _ (ipStep (lbe pts x a) ((octets ((valueN cs a : Nat) : Int) z).toList.map (·.toNat)) ((lanes z).map r)) (ptsOf cs z xs) = _
    rw [octets_list, ipStep_map, ipLoop_from cs z x pts xs]
    refine List.map_congr_left fun k _ => ?_
    show byteStep _ _ _ ^^^ _ = r k ^^^ (_ ^^^ _)
    rw [byteStep_mul (lbe_lt _ _ _), Nat.xor_assoc]
theorem uniq_nodup {l : List Int} (h : l.Nodup) : uniq l = l := by
  have key : ∀ (l acc : List Int), (acc ++ l).Nodup → l.foldl step_dedup acc = acc ++ l := by
    intro l
    induction l with
    | nil => intro acc _; simp
    | cons v l ih =>
      intro acc h
      have h1 : acc ++ v :: l = (acc ++ [v]) ++ l := by simp
      rw [List.foldl_cons]
      have hv : ¬ (acc.any (· == v) = true) := by
        intro e
        obtain ⟨y, hy, e⟩ := List.any_eq_true.mp e
        have : y = v := by simpa using e
        subst this
        exact (List.nodup_append.mp h).2.2 y hy y (.head _) rfl
      have : step_dedup acc v = acc ++ [v] := by unfold step_dedup; rw [if_neg hv]
      rw [this, ih _ (by rw [← h1]; exact h), h1]
  exact (key l [] h)
theorem uniq_snoc (l : List Int) (v : Int) : uniq (l ++ [v]) = step_dedup (uniq l) v := by
  unfold uniq; rw [List.foldl_append]; rfl
theorem uniq_const {l : List Int} {c : Int} (h0 : l ≠ []) (h : ∀ v ∈ l, v = c) : uniq l = [c] := by
  have key : ∀ (l : List Int), (∀ v ∈ l, v = c) → l.foldl step_dedup [c] = [c] := by
    intro l
    induction l with
    | nil => intro _; rfl
    | cons v l ih =>
      intro h
      have e := h v (.head _)
      subst e
      rw [List.foldl_cons]
      have : step_dedup [v] v = [v] := by unfold step_dedup; simp
      rw [this, ih fun w hw => h w (.tail _ hw)]
  match l, h0, h with
  | v :: l, _, h =>
    have e := h v (.head _)
    subst e
    show (v :: l).foldl step_dedup [] = _
    rw [List.foldl_cons]
    have : step_dedup [] v = [v] := by unfold step_dedup; simp
    rw [this, key l fun w hw => h w (.tail _ hw)]
theorem xs_nodup {xs : List Nat} (h : xs.Nodup) (cs : List Nat) (z : Nat) : (uniq (xsI (ptsOf cs z xs))).length = (ptsOf cs z xs).length := by
  have e : xsI (ptsOf cs z xs) = xs.map fun a => ((a : Nat) : Int) := by
    unfold xsI ptsOf; rw [List.map_map]; rfl
  rw [e, uniq_nodup]
  · simp [ptsOf]
  · refine (List.pairwise_map).mpr (h.imp fun hab => ?_)
    exact fun e => hab (Int.ofNat_inj.mp e)
theorem lens_ptsOf (cs : List Nat) (z : Nat) (xs : List Nat) : lensI (ptsOf cs z xs) = xs.map fun _ => (z : Int) := by
  unfold lensI ptsOf
  rw [List.map_map]
  refine List.map_congr_left fun a _ => ?_
  show ((Array.size _ : Nat) : Int) = _
  rw [octets_size]
/-- the plain law: the octets of the polynomials at the place asked -/
theorem ipN_ptsOf {cs xs : List Nat} {z x : Nat} (hz : z ≤ 3) (h0 : xs ≠ []) (hn : xs.Nodup) (hl : ∀ a ∈ xs, a < 256) (hx : x < 256) (hc : ∀ c ∈ cs, c < 2 ^ 24) (hlen : cs.length = xs.length) :
    ipN (ptsOf cs z xs) x = some (octets ((valueN cs x : Nat) : Int) z) := by
  unfold ipN
  have hlens : uniq (lensI (ptsOf cs z xs)) = [(z : Int)] := by
    rw [lens_ptsOf]
    refine uniq_const (by simpa using h0) fun v hv => ?_
    obtain ⟨a, _, rfl⟩ := List.mem_map.mp hv
    rfl
  rw [if_neg (by rw [xs_nodup hn]; simp), if_neg (by rw [hlens]; simp)]
  cases hf : (ptsOf cs z xs).find? (fun q => q.1 == x) with
  | some q =>
    obtain ⟨a, ha, rfl⟩ := List.mem_map.mp (List.mem_of_find?_eq_some hf)
    have e := List.find?_some hf
    have e : a = x := by simpa using e
    subst e
    rfl
  | none =>
    have hx' : x ∉ xs := by
      intro hm
      have := List.find?_eq_none.mp hf (x, octets ((valueN cs x : Nat) : Int) z) (List.mem_map.mpr ⟨x, hm, rfl⟩)
      simp at this
    dsimp only
    rw [hlens]
    show some (bytesN (ipLoop _ x ((z : Int)).toNat)) = _
    rw [Int.toNat_natCast, octets_lanes]
    congr 1
    congr 1
    unfold ipLoop
    have e0 : List.replicate z 0 = (lanes z).map fun _ => 0 := by rw [List.map_const']; simp [lanes]
    rw [e0, ipLoop_from]
    refine List.map_congr_left fun k hk => ?_
    have hk3 : k < 3 := by
      have : k < z := by simpa [lanes] using hk
      exact Nat.lt_of_lt_of_le this hz
    rw [Nat.zero_xor, lane_value hk3 hx hc]
    have hP : Pol xs.length (hor (cs.map (lane k))) := by
      have := Pol.hor (cs := cs.map (lane k)) (fun c hc => by
        obtain ⟨b, _, rfl⟩ := List.mem_map.mp hc
        exact lane_lt _ _)
      rwa [List.length_map, hlen] at this
    rw [← lagrange hn hl hP hx]
    refine sumF_congr fun a ha => ?_
    rw [lane_value hk3 (hl a ha) hc, lbe_ptsOf, lagB_exp hn ha hx']
theorem ipN_nil (x : Nat) : ipN [] x = none := by
  unfold ipN
  rw [if_neg (by simp [xsI, uniq]), if_pos (by simp [lensI, uniq])]
theorem ipN_twice {pts : List (Nat × Array UInt8)} {a : Nat} (b : Array UInt8) (x : Nat) (h : ∃ q ∈ pts, q.1 = a) : ipN (pts ++ [(a, b)]) x = none := by
  unfold ipN
  rw [if_pos]
  have e : xsI (pts ++ [(a, b)]) = xsI pts ++ [((a : Nat) : Int)] := by unfold xsI; simp
  have hany : (uniq (xsI pts)).any (· == ((a : Nat) : Int)) = true := by
    rw [uniq_any]
    obtain ⟨q, hq, rfl⟩ := h
    exact List.any_eq_true.mpr ⟨_, List.mem_map_of_mem hq, by simp⟩
  rw [e, uniq_snoc, step_length, if_pos hany]
  have := uniq_le (xsI pts)
  have h2 : (xsI pts).length = pts.length := by simp [xsI]
  simp only [List.length_append, List.length_singleton]
  exact Nat.ne_of_lt (Nat.lt_succ_of_le (h2 ▸ this))
theorem ipN_long {cs xs : List Nat} {z a : Nat} {b : Array UInt8} (x : Nat) (h0 : xs ≠ []) (hb : b.size ≠ z) : ipN (ptsOf cs z xs ++ [(a, b)]) x = none := by
  unfold ipN
  split
  · rfl
  · rw [if_pos]
    intro h
    obtain ⟨z', _, hz, _⟩ := lens_one h
    obtain ⟨c, xs, rfl⟩ := List.exists_cons_of_ne_nil h0
    have h1 := hz (c, octets ((valueN cs c : Nat) : Int) z) (.head _)
    have h2 := hz (a, b) (by simp)
    dsimp only at h1 h2
    rw [octets_size] at h1
    exact hb (h2.trans h1.symm)
end Mine
end

-- part KB
section
open PySem PySem.W PySem.Calls PyProof.Rows
namespace Mine
set_option maxRecDepth 100000
set_option maxHeartbeats 1000000
set_option linter.unusedVariables false

section
variable {prog : Program} {w : World} {A : Around} {E : Value → Shared → Prop} {s : Shared} {env : Env} {h₀ : Heap} {m : Str → Option Value}
/-- what a list hands to a comprehension, and what must follow -/
inductive ListRes (prog : Program) (w : World) (A : Around) (env : Env) (scope : Scope) (clo : List (Str × Addr)) (x : Str) (elt : Expr) (h₀ : Heap) (L : Addr) (m : Str → Option Value) (os : OsState)
    (J : Nat → List Value → List (Addr × Obj) → Array GenState → Drawn → Prop) (M : Addr → Str → Option Value) (R : Addr → Shared → Prop) (xv : Value) (s₁ : Shared) : Prop where
  | mk (l : Addr) (vs : Array Value) (nx₀ : List (Addr × Obj)) (hx : xv = .ref l) (hl : s₁.heap.IsList l vs) (hn : vs.size ≤ 4096) (hos : s₁.os = os) (F : Fr h₀ L s₁.heap m) (N : News h₀ L s₁.heap nx₀) (hj : J 0 [] nx₀ s₁.gens s₁.drawn)
      (hel : ∀ I, I ≠ l → ElOk prog w A env scope clo x elt h₀ L m os [I, l] I (fun i v => vs[i]? = some v) J)
      (hQ : ∀ D s' ys nx od, s'.os = os → J vs.size ys nx s'.gens s'.drawn → Fr h₀ L s'.heap (M D) → News h₀ L s'.heap ((D, od) :: nx) → IsListObj od ys → od.dict = none → (∀ p ∈ nx, p.1 ≠ D) → R D s')
theorem comp_list_use {elt iter : Expr} {x y : Str} {px py : Pos} {scope : Scope} {clo : List (Str × Addr)} {pos spos : Pos} {Q : Flow → Shared → Prop} {os : OsState}
    (J : Nat → List Value → List (Addr × Obj) → Array GenState → Drawn → Prop) (_F : Fr h₀ env.locals s.heap m) (hh : A.handled = none) (hclos : closureFor scope env = pure clo)
    (hsw : swapsWith (.ListComp elt [⟨.Name x px, iter, [], 0⟩] scope pos) (some (.Name y py)) spos.line env = pure true)
    (hy : env.kindOf y = some .local) (hp : (env.scope.kind == .class || (env.scope.kind == .module && env.locals != env.globals)) = false)
    (h : wpAny (model prog w) A (eval iter env) (ListRes prog w A env scope clo x elt h₀ env.locals m os J (fun D z => if z = y then some (.ref D) else m z) (fun _ s' => Q .next s')) E s)
    (hs : ∀ x, foldedSetIterable iter env x = pure x)
    (hcell : ∀ y ∈ scope.names, y.2 ≠ .cell) (hkind : scope.kind = .function)
    (hnames : ∀ y ∈ scope.names, y.2 = .local → scope.names.lookup y.1 = some .local) (hx : scope.names.lookup x = some .local) :
    wpAny (model prog w) A (exec (.Assign [.Name y py] (.ListComp elt [⟨.Name x px, iter, [], 0⟩] scope pos) spos) env) Q E s := by
  refine use_head hclos hsw hs hkind hnames (wpAny_mono h (fun xv s₁ h₁ => ?_) fun _ _ e => e)
  obtain ⟨l, vs, nx₀, rfl, hl, hn, hos, F, N, hj, hel, hQ⟩ := h₁
  subst hos
  refine wpAny_pyIter_list hl ?_
  have hll : l < s₁.heap.objs.size := by obtain ⟨o, ho, _⟩ := hl; exact Heap.lt_size ho
  have lI : ∀ p ∈ nx₀, p.1 ≠ s₁.heap.objs.size := fun p hp => Nat.ne_of_lt (Heap.lt_size (N p hp).1)
  refine comp_core (n := vs.size) (h₀ := h₀) (L := env.locals) (m := m) (nx₀ := nx₀) (oI := { cls := .type "list_iterator", data := .fields #[.ref l, .int 0 0] }) J (RR := fun acc C => compPost (model prog w) A E (some (assign (.Name y py) env)) (fun _ s' => Q .next s') acc C) (Walks.list hh s₁.heap.objs.size l (Nat.ne_of_lt hll) vs) (fun i h st => ?_) hn ?_ ?_ (F.push _) (News.push F N _) lI hj hcell hkind hx ?_ ?_
  · obtain ⟨o, ho, _⟩ := st.1
    exact ⟨o, ho⟩
  · exact ⟨⟨_, Heap.get?_push_size _ rfl, rfl, rfl⟩, hl.push _⟩
  · intro b hb
    show b < (s₁.heap.push _).objs.size
    rw [Heap.size_push]
    rcases List.mem_cons.mp hb with rfl | hb
    · exact Nat.lt_succ_self _
    · rcases List.mem_cons.mp hb with rfl | hb
      · exact Nat.lt_succ_of_lt hll
      · cases hb
  · exact hel s₁.heap.objs.size (Nat.ne_of_gt hll)
  · exact fun D C s' ys nx od hos' hJ F' N' hod hdn hns hCL hC0 hap hD =>
      use_tail hy hp F' N' hns hCL hC0 hap fun h'' F'' N'' => hQ D { s' with heap := h'', toks := s'.toks + 1 } ys nx od hos' hJ F'' N'' hod hdn hD
end

theorem share_keep (w : World) : keepIn (hd.heap_39 w.params) (.ref 145) = true := by kernel_rfl
theorem octets_keep (w : World) : keepIn (hd.heap_39 w.params) (.ref 182) = true := by kernel_rfl
theorem value_keep (w : World) : keepIn (hd.heap_39 w.params) (.ref 196) = true := by kernel_rfl

section
variable {w : World} {p : Program} {loose : List Str} {mean : ExcName → Option Value} {mg mb : Str → Option Value} {dp un : Nat} {gd : Option (List Code)} {cn : Str} {cs : Scope} {a : Addr} {ccd : Value} {cl : List (Str × Addr)} {outer : List Env} {A₀ : Around} {base h₀ : Heap} {L : Addr} {m : Str → Option Value} {news : List (Addr × Obj)} {s : Shared} {Q E : Value → Shared → Prop} {cenv : Env}
/-- one share: `RawShare(place, _law_octets(_law_value(curve, place), size))` -/
theorem el_point {c : Addr} {oc : Obj} {vs : List Value} {ks : List Nat} {x0 z : Nat} {tp tz : Tok} {pn un' sn : Str} {p1 p2 p3 p4 p5 p6 p7 p8 p9 p10 : Pos}
    (B : Below A₀ base outer h₀) (F : Fr h₀ L s.heap m) (X : (hd.heap_39 w.params).In h₀) (N : News h₀ L s.heap news) (T : Top p loose mean mg mb h₀) (hk : cs.kind = .function)
    (hc : (c, oc) ∈ news) (hoc : IsListObj oc vs) (hi : IntsAre vs (ks.map fun k : Nat => (k : Int))) (hlt : ∀ k ∈ ks, k < 2 ^ 24) (hx : x0 < 256) (hz1 : 1 ≤ z) (hz4 : z ≤ 4) (hd9 : dp + 4 < recursionLimit) (hu9 : un + 24 < cLine)
    (hck : cenv.scope.kind = .function) (hg : cenv.globals = mainGlobals) (hk1 : cenv.kindOf (Str.ofString "RawShare") = some .globalImplicit) (hk2 : cenv.kindOf (Str.ofString "_law_octets") = some .globalImplicit) (hk3 : cenv.kindOf (Str.ofString "_law_value") = some .globalImplicit)
    (hpn : ∀ h' tk, News h₀ L h' news → ∀ p Q E, Q (.int (x0 : Nat) tp) { s with heap := h', toks := tk } → wpAny (model PySem.Challenge.rw_jb0038_01.row.prog w) (ktrTop dp un gd cn cs L a ccd cl outer) (eval (.Name pn p) cenv) Q E { s with heap := h', toks := tk })
    (hun : ∀ h' tk, News h₀ L h' news → ∀ p Q E, Q (.ref c) { s with heap := h', toks := tk } → wpAny (model PySem.Challenge.rw_jb0038_01.row.prog w) (ktrTop dp un gd cn cs L a ccd cl outer) (eval (.Name un' p) cenv) Q E { s with heap := h', toks := tk })
    (hsn : ∀ h' tk, News h₀ L h' news → ∀ p Q E, Q (.int (z : Nat) tz) { s with heap := h', toks := tk } → wpAny (model PySem.Challenge.rw_jb0038_01.row.prog w) (ktrTop dp un gd cn cs L a ccd cl outer) (eval (.Name sn p) cenv) Q E { s with heap := h', toks := tk })
    (hret : ∀ x dd t1 h' tk, Fr h₀ L h' m → News h₀ L h' ((x, shareObj dd (.int (x0 : Nat) tp) (.bytes (octets ((valueN ks x0 : Nat) : Int) z) t1) 0) :: news) → (∀ p ∈ news, p.1 ≠ x) → Q (.ref x) { s with heap := h', toks := tk })
    (hst1 : starEach [.Name pn p2, .Call (.Name (Str.ofString "_law_octets") p3) [.Call (.Name (Str.ofString "_law_value") p4) [.Name un' p5, .Name pn p6] [] p7, .Name sn p8] [] p9] cenv = (false, eval (.Name pn p2) cenv) :: starEach [.Call (.Name (Str.ofString "_law_octets") p3) [.Call (.Name (Str.ofString "_law_value") p4) [.Name un' p5, .Name pn p6] [] p7, .Name sn p8] [] p9] cenv) :
    wpAny (model PySem.Challenge.rw_jb0038_01.row.prog w) (ktrTop dp un gd cn cs L a ccd cl outer) (eval (.Call (.Name (Str.ofString "RawShare") p1) [.Name pn p2, .Call (.Name (Str.ofString "_law_octets") p3) [.Call (.Name (Str.ofString "_law_value") p4) [.Name un' p5, .Name pn p6] [] p7, .Name sn p8] [] p9] [] p10) cenv) Q E s := by
  have Xs := X.keeps F.keep
  have Ts := T.keeps F.keep
  obtain ⟨hh, gs, dr, tk0, os0⟩ := s
  dsimp only at F N Xs Ts hpn hun hsn hret ⊢
  refine Call_ ?_
  refine el_global (hd := by decide) Xs Ts hck hg hk1 (share_name w) ?_
  refine callWith_K X (share_keep w) ?_
  refine args_cons ?_
  refine hpn hh tk0 N _ _ _ ?_
  refine args_cons ?_
  refine Call_ ?_
  refine el_global (hd := by decide) Xs Ts hck hg hk2 (octets_name w) ?_
  refine callWith_K X (octets_keep w) ?_
  refine args_cons ?_
  refine Call_ ?_
  refine el_global (hd := by decide) Xs Ts hck hg hk3 (value_name w) ?_
  refine callWith_K X (value_keep w) ?_
  refine args_cons ?_
  refine hun hh tk0 N _ _ _ ?_
  refine args_cons ?_
  refine hpn hh tk0 N _ _ _ ?_
  refine args_nil ⟨Xs, ?_⟩
  refine value_c B F X N T hk hc hoc hi hlt hx (room hd9 (by decide)) hu9 fun t1 h1 tk1 F1 N1 => ?_
  dsimp only at F1 N1 ⊢
  refine args_cons ?_
  refine hsn h1 tk1 N1 _ _ _ ?_
  refine args_nil ⟨X.keeps F1.keep, ?_⟩
  refine octets_c B F1 X N1 T hk hz1 hz4 (room hd9 (by decide)) (room hu9 (by decide)) fun t2 h2 tk2 F2 N2 => ?_
  dsimp only at F2 N2 ⊢
  refine args_nil ⟨X.keeps F2.keep, ?_⟩
  exact new_c F2 X N2 T hd9 (room hu9 (by decide)) fun x dd h' tk F3 N3 hne => hret x dd t2 h' tk F3 N3 hne
end

theorem map_erase {α β : Type} (f : α → β) : ∀ (l : List α) (k : Nat), (l.map f).eraseIdx k = (l.eraseIdx k).map f
  | [], _ => rfl
  | _ :: _, 0 => rfl
  | a :: l, k + 1 => by
    show f a :: (l.map f).eraseIdx k = f a :: (l.eraseIdx k).map f
    rw [map_erase f l k]
theorem shares_snoc {ys : List Value} {pts : List (Nat × Array UInt8)} {shs : List (Addr × Obj)} {x : Addr} {dd : Option Addr} {t0 t1 : Tok} {i : Nat} {p : Nat × Array UInt8} (hlen : ys.length = i) (hp : pts[i]? = some p)
    (h : ∀ (j : Nat) v q, ys[j]? = some v → pts[j]? = some q → ShareAt shs v q) : ∀ (j : Nat) v q, (ys ++ [.ref x])[j]? = some v → pts[j]? = some q → ShareAt ((x, shareObj dd (.int (p.1 : Nat) t0) (.bytes p.2 t1) 0) :: shs) v q := by
  intro j v q hv hq
  by_cases hj : j < ys.length
  · rw [List.getElem?_append_left hj] at hv
    obtain ⟨y, d2, s0, s1, e, hm⟩ := h j v q hv hq
    exact ⟨y, d2, s0, s1, e, .tail _ hm⟩
  · have hl := (List.getElem?_eq_some_iff.mp hv).1
    rw [List.length_append, List.length_singleton] at hl
    have hji : j = ys.length := Nat.le_antisymm (Nat.le_of_lt_succ hl) (Nat.not_lt.mp hj)
    subst hji
    rw [hlen] at hv hq
    rw [hp] at hq
    cases hq
    rw [← hlen, List.getElem?_append_right (Nat.le_refl _), Nat.sub_self] at hv
    have hv' : some (Value.ref x) = some v := hv
    cases hv'
    exact ⟨x, dd, t0, t1, rfl, .head _⟩

-- the places picked are unlike and below 256
theorem freeN_sub (ns : List Int) (i : Nat) : (freeN ns (i + 1)).Sublist (freeN ns i) := List.eraseIdx_sublist _ _
theorem freeN_nodup (ns : List Int) : ∀ i, (freeN ns i).Nodup
  | 0 => List.nodup_range
  | i + 1 => (freeN_nodup ns i).sublist (freeN_sub ns i)
theorem freeN_lt (ns : List Int) : ∀ i, ∀ a ∈ freeN ns i, a < 256
  | 0, a, h => List.mem_range.mp h
  | i + 1, a, h => freeN_lt ns i a ((freeN_sub ns i).subset h)
theorem freeN_from (ns : List Int) : ∀ (i j : Nat), (freeN ns (i + j)).Sublist (freeN ns i)
  | i, 0 => List.Sublist.refl _
  | i, j + 1 => (freeN_sub ns (i + j)).trans (freeN_from ns i j)
theorem placeN_get {ns : List Int} {i : Nat} (h : i < 256) : (freeN ns i)[pickN ns i]? = some (placeN ns i) := by
  have hl := freeN_len ns i (Nat.le_of_lt h)
  have hp := pickN_lt (ns := ns) (i := i) (by rw [hl]; exact Nat.sub_pos_of_lt h)
  unfold placeN
  rw [List.getD_eq_getElem?_getD, List.getElem?_eq_getElem hp]; rfl
theorem placeN_mem {ns : List Int} {i : Nat} (h : i < 256) : placeN ns i ∈ freeN ns i := List.mem_of_getElem? (placeN_get h)
theorem placeN_lt {ns : List Int} {i : Nat} (h : i < 256) : placeN ns i < 256 := freeN_lt ns i _ (placeN_mem h)
theorem erase_not {l : List Nat} (h : l.Nodup) {k a : Nat} (hk : l[k]? = some a) : a ∉ l.eraseIdx k := by
  intro hm
  obtain ⟨j, hj, hne, e⟩ := List.mem_eraseIdx_iff_getElem.mp hm
  obtain ⟨hk', e2⟩ := List.getElem?_eq_some_iff.mp hk
  exact hne ((List.getElem_inj h).mp (e.trans e2.symm))
theorem placeN_ne {ns : List Int} {i j : Nat} (hij : i < j) (hj : j < 256) : placeN ns i ≠ placeN ns j := by
  intro e
  have h1 : placeN ns i ∉ freeN ns (i + 1) := erase_not (freeN_nodup ns i) (placeN_get (Nat.lt_trans hij hj))
  have h2 := placeN_mem (ns := ns) hj
  have h3 := freeN_from ns (i + 1) (j - (i + 1))
  rw [show i + 1 + (j - (i + 1)) = j from Nat.add_sub_cancel' hij] at h3
  exact h1 (e ▸ h3.subset h2)
noncomputable def plcN (ns : List Int) (c : Nat) : List Nat := (List.range c).map (placeN ns)
noncomputable def ksN (ns : List Int) (z c : Nat) : List Nat := (List.range c).map (laneAt ns z)
theorem plcN_nodup (ns : List Int) {c : Nat} (hc : c ≤ 256) : (plcN ns c).Nodup := by
  unfold plcN
  rw [List.Nodup, List.pairwise_map]
  refine List.Pairwise.imp_of_mem (R := fun a b => a < b) ?_ List.pairwise_lt_range
  intro a b ha hb hab
  exact placeN_ne hab (Nat.lt_of_lt_of_le (List.mem_range.mp hb) hc)
theorem plcN_lt (ns : List Int) {c : Nat} (hc : c ≤ 256) : ∀ a ∈ plcN ns c, a < 256 := by
  intro a ha
  obtain ⟨i, hi, rfl⟩ := List.mem_map.mp ha
  exact placeN_lt (Nat.lt_of_lt_of_le (List.mem_range.mp hi) hc)
theorem plcN_len (ns : List Int) (c : Nat) : (plcN ns c).length = c := by simp [plcN]
theorem ksN_len (ns : List Int) (z c : Nat) : (ksN ns z c).length = c := by simp [ksN]
theorem ksN_lt (ns : List Int) {z : Nat} (hz : z ≤ 3) (c : Nat) : ∀ k ∈ ksN ns z c, k < 2 ^ 24 := by
  intro k hk
  obtain ⟨i, _, rfl⟩ := List.mem_map.mp hk
  exact laneAt_lt ns hz i
theorem plcN_at {ns : List Int} {c i : Nat} (hi : i < c) : (plcN ns c)[i]? = some (placeN ns i) := by
  unfold plcN; rw [List.getElem?_map, List.getElem?_range hi]; rfl
theorem pts_at {ns : List Int} {cs : List Nat} {z c i : Nat} (hi : i < c) : (ptsOf cs z (plcN ns c))[i]? = some (placeN ns i, octets ((valueN cs (placeN ns i) : Nat) : Int) z) := by
  unfold ptsOf; rw [List.getElem?_map, plcN_at hi]; rfl
end Mine
end

-- part KC
section
open PySem PySem.W PySem.Calls PyProof.Rows
namespace Mine
set_option maxRecDepth 100000
set_option maxHeartbeats 1000000
set_option linter.unusedVariables false

section
variable {w : World} {p : Program} {loose : List Str} {mean : ExcName → Option Value} {mg mb : Str → Option Value} {dp un : Nat} {gd : Option (List Code)} {cn : Str} {cs : Scope} {a : Addr} {ccd : Value} {cl : List (Str × Addr)} {outer : List Env} {A₀ : Around} {base h₀ : Heap} {L : Addr} {m : Str → Option Value} {news : List (Addr × Obj)} {s : Shared} {Q E : Value → Shared → Prop} {cenv : Env}

/-- an item of a list at a written place -/
theorem el_item {A : Around} {l : Addr} {items : Array Value} {k : Nat} {v : Value} {tk : Tok} {value slice : Expr} (hl : s.heap.IsList l items) (hk : k < 256) (hv : items[k]? = some v) (h : Q v s)
    (hs : subscripted slice false (.ref l) (.int (k : Nat) tk) = operate [.ref l, .int (k : Nat) tk] (getItem (.ref l) (.int (k : Nat) tk))) (ht : ∀ r, letTemporaryGo value (.ref l) r = pure ()) :
    wpAny (model PySem.Challenge.rw_jb0038_01.row.prog w) A (subscriptTail value slice (.ref l) (.int (k : Nat) tk)) Q E s :=
  subscriptTail_builtin hl.typeIs slot_list_getitem.lookup (wpAny_getItem_list hl (Int.natCast_nonneg k) (Int.lt_of_lt_of_le (Int.ofNat_lt.mpr hk) (by decide)) (by simpa using hv) h) hs ht

/-- `_law_octets(_law_number(script, 22), e)` -/
theorem el_oct {la : Addr} {vs : List Value} {ns : List Int} {sn : Str} {k z : Nat} {kk : Nat} {e : Expr} {p1 p2 p3 p4 p5 p6 : Pos}
    (B : Below A₀ base outer h₀) (F : Fr h₀ L s.heap m) (X : (hd.heap_39 w.params).In h₀) (N : News h₀ L s.heap news) (T : Top p loose mean mg mb h₀) (hk : cs.kind = .function)
    (hl : base.IsList la vs.toArray) (hi : IntsAre vs ns) (hn : ns.length < 2 ^ 62) (hz1 : 1 ≤ z) (hz4 : z ≤ 4) (hd9 : dp + 1 < recursionLimit) (hu9 : un + 8 < cLine)
    (hck : cenv.scope.kind = .function) (hg : cenv.globals = mainGlobals) (hk1 : cenv.kindOf (Str.ofString "_law_number") = some .globalImplicit) (hk2 : cenv.kindOf (Str.ofString "_law_octets") = some .globalImplicit)
    (hsn : ∀ h' tk, Fr h₀ L h' m → News h₀ L h' news → ∀ p Q E, Q (.ref la) { s with heap := h', toks := tk } → wpAny (model PySem.Challenge.rw_jb0038_01.row.prog w) (ktrTop dp un gd cn cs L a ccd cl outer) (eval (.Name sn p) cenv) Q E { s with heap := h', toks := tk })
    (he : ∀ h' tk, Fr h₀ L h' m → News h₀ L h' news → ∀ Q E, (∀ t tk', Q (.int (z : Nat) t) { s with heap := h', toks := tk' }) → wpAny (model PySem.Challenge.rw_jb0038_01.row.prog w) (ktrTop dp un gd cn cs L a ccd cl outer) (eval e cenv) Q E { s with heap := h', toks := tk })
    (hret : ∀ t1 h' tk, Fr h₀ L h' m → News h₀ L h' news → Q (.bytes (octets (numAt ns (k : Nat)) z) t1) { s with heap := h', toks := tk })
    (hst0 : starEach [.Constant (.int (k : Nat)) kk p3] cenv = (false, eval (.Constant (.int (k : Nat)) kk p3) cenv) :: starEach [] cenv)
    (hst1 : starEach [e] cenv = (false, eval e cenv) :: starEach [] cenv) (hpl : (backTo p6 (starEach [e] cenv)).any (·.1) = false) :
    wpAny (model PySem.Challenge.rw_jb0038_01.row.prog w) (ktrTop dp un gd cn cs L a ccd cl outer) (eval (.Call (.Name (Str.ofString "_law_octets") p1) [.Call (.Name (Str.ofString "_law_number") p2) [.Name sn p4, .Constant (.int (k : Nat)) kk p3] [] p5, e] [] p6) cenv) Q E s := by
  have Xs := X.keeps F.keep
  have Ts := T.keeps F.keep
  obtain ⟨hh, gs, dr, tk0, os0⟩ := s
  dsimp only at F N Xs Ts hsn he hret ⊢
  refine Call_ ?_
  refine el_global (hd := by decide) Xs Ts hck hg hk2 (octets_name w) ?_
  refine callWith_K X (octets_keep w) ?_ (by rfl) hpl
  refine args_cons ?_
  refine el_number (k := ((k : Nat) : Int)) B F X N T hk hl hi hn (Int.natCast_nonneg k) hd9 hu9 hck hg hk1 (fun Q E h => hsn hh tk0 F N _ _ _ h) (fun Q E h => wpAny_Constant_int (h _ _)) ?_ hst0
  intro t1 h1 tk1 F1 N1
  dsimp only
  refine args_cons ?_ hst1
  refine he h1 tk1 F1 N1 _ _ fun t2 tk2 => ?_
  refine args_nil ⟨X.keeps F1.keep, ?_⟩
  exact octets_c B F1 X N1 T hk hz1 hz4 hd9 hu9 fun t3 h3 tk3 F3 N3 => hret t3 h3 tk3 F3 N3

/-- `points.append(RawShare(l[0], e2))` -/
theorem el_append {Dp l : Addr} {odp : Obj} {ysp : List Value} {items : Array Value} {k0 : Nat} {t0 : Tok} {kk : Nat} {g : Obj → List (Addr × Obj)} {P : Array UInt8 → Prop} {nm pn : Str} {e2 : Expr} {p1 p2 p3 p4 p5 p6 p7 p8 : Pos}
    (B : Below A₀ base outer h₀) (F : Fr h₀ L s.heap m) (X : (hd.heap_39 w.params).In h₀) (N : News h₀ L s.heap news) (T : Top p loose mean mg mb h₀) (hk : cs.kind = .function)
    (U : UpdF Dp odp news g) (hodp : IsListObj odp ysp) (hodn : odp.dict = none) (hlen : ysp.length ≤ 4096) (hl : ∀ h', Fr h₀ L h' m → News h₀ L h' news → h'.IsList l items) (h0 : items[0]? = some (.int (k0 : Nat) t0)) (hd9 : dp + 4 < recursionLimit) (hu9 : un + 24 < cLine)
    (hck : cenv.scope.kind = .function) (hg : cenv.globals = mainGlobals) (hk1 : cenv.kindOf (Str.ofString "RawShare") = some .globalImplicit)
    (hpn : ∀ h' tk, Fr h₀ L h' m → News h₀ L h' news → ∀ p Q E, Q (.ref Dp) { s with heap := h', toks := tk } → wpAny (model PySem.Challenge.rw_jb0038_01.row.prog w) (ktrTop dp un gd cn cs L a ccd cl outer) (eval (.Name pn p) cenv) Q E { s with heap := h', toks := tk })
    (hnm : ∀ h' tk, Fr h₀ L h' m → News h₀ L h' news → ∀ p Q E, Q (.ref l) { s with heap := h', toks := tk } → wpAny (model PySem.Challenge.rw_jb0038_01.row.prog w) (ktrTop dp un gd cn cs L a ccd cl outer) (eval (.Name nm p) cenv) Q E { s with heap := h', toks := tk })
    (he : ∀ h' tk, Fr h₀ L h' m → News h₀ L h' news → ∀ Q E, (∀ b t h2 tk', P b → Fr h₀ L h2 m → News h₀ L h2 news → Q (.bytes b t) { s with heap := h2, toks := tk' }) → wpAny (model PySem.Challenge.rw_jb0038_01.row.prog w) (ktrTop dp un gd cn cs L a ccd cl outer) (eval e2 cenv) Q E { s with heap := h', toks := tk })
    (hret : ∀ x dd b t1 od' h' tk, P b → Fr h₀ L h' m → News h₀ L h' ((x, shareObj dd (.int (k0 : Nat) t0) (.bytes b t1) 0) :: g od') → (∀ q ∈ news, q.1 ≠ x) → IsListObj od' (ysp ++ [.ref x]) → od'.dict = none → Q .none { s with heap := h', toks := tk })
    (hst1 : starEach [e2] cenv = (false, eval e2 cenv) :: starEach [] cenv) (hst2 : starEach [.Subscript (.Name nm p4) (.Constant (.int 0) kk p5) p6, e2] cenv = (false, eval (.Subscript (.Name nm p4) (.Constant (.int 0) kk p5) p6) cenv) :: starEach [e2] cenv)
    (hst3 : starEach [.Call (.Name (Str.ofString "RawShare") p3) [.Subscript (.Name nm p4) (.Constant (.int 0) kk p5) p6, e2] [] p7] cenv = (false, eval (.Call (.Name (Str.ofString "RawShare") p3) [.Subscript (.Name nm p4) (.Constant (.int 0) kk p5) p6, e2] [] p7) cenv) :: starEach [] cenv)
    (hpl : (backTo p7 (starEach [e2] cenv)).any (·.1) = false)
    {pl : Sem Bool} (hmc : eval (.Call (.Attribute (.Name pn p1) (Str.ofString "append") p2) [.Call (.Name (Str.ofString "RawShare") p3) [.Subscript (.Name nm p4) (.Constant (.int 0) kk p5) p6, e2] [] p7] [] p8) cenv = (do
      let ov ← eval (.Name pn p1) cenv
      standAt p2.atName
      let (f, first) ← holding [ov] (getMethod ov (Str.ofString "append") pl)
      callWith p8 f first (backTo p8 (starEach [.Call (.Name (Str.ofString "RawShare") p3) [.Subscript (.Name nm p4) (.Constant (.int 0) kk p5) p6, e2] [] p7] cenv)) [])) :
    wpAny (model PySem.Challenge.rw_jb0038_01.row.prog w) (ktrTop dp un gd cn cs L a ccd cl outer) (eval (.Call (.Attribute (.Name pn p1) (Str.ofString "append") p2) [.Call (.Name (Str.ofString "RawShare") p3) [.Subscript (.Name nm p4) (.Constant (.int 0) kk p5) p6, e2] [] p7] [] p8) cenv) Q E s := by
  have Xs := X.keeps F.keep
  have Ts := T.keeps F.keep
  obtain ⟨hh, gs, dr, tk0, os0⟩ := s
  dsimp only at F N Xs Ts hpn hnm he hret ⊢
  obtain ⟨own, rest, rfl, hgr, u1, u2⟩ := U.split
  have hmem := N (Dp, odp) (List.mem_append_right _ (.head _))
  refine MethodCall_ ?_ hmc
  refine hpn hh tk0 F N _ _ _ ?_
  refine getMethod_builtin (hodp.at hmem.1).typeIs PySem.F.plainAttrs_list slot_list_append PySem.F.type_list_append (fun b e => by cases e; exact ⟨odp, hmem.1, hodn⟩) ?_
  dsimp only
  refine callWith_method1 ?_ hst3
  refine args_cons ?_ hst3
  refine Call_ ?_
  refine el_global (hd := by decide) Xs Ts hck hg hk1 (share_name w) ?_
  refine callWith_K X (share_keep w) ?_ hst2 hpl
  refine args_cons ?_ hst2
  refine Subscript_ ?_
  refine hnm hh _ F N _ _ _ ?_
  refine wpAny_Constant_int ?_
  refine el_item (hs := by with_unfolding_all rfl) (ht := by intro _; with_unfolding_all rfl) (k := 0) (hl _ F N) (by decide) h0 ?_
  refine args_cons ?_ hst1
  refine he hh _ F N _ _ fun b t2 h2 tk2 hP F2 N2 => ?_
  refine args_nil ⟨X.keeps F2.keep, ?_⟩
  refine new_c F2 X N2 T hd9 (room hu9 (by decide)) fun x dd h3 tk3 F3 N3 hne => ?_
  dsimp only
  refine args_nil ?_
  have hm3 := N3 (Dp, odp) (.tail _ (List.mem_append_right _ (.head _)))
  refine list_append_at (vs := ysp) hm3.1 hodp hlen fun h4 od' hs4 ho4 hl4 hd4 => ?_
  refine hret x dd b t2 od' h4 _ hP (F3.change hs4 hm3.2.1 hm3.2.2) ?_ hne hl4 (hd4.trans hodn)
  rw [hgr]
  exact News.setIn (own := (x, shareObj dd (.int (k0 : Nat) t0) (.bytes b t2) 0) :: own) N3 (fun q hq => by
    rcases List.mem_cons.mp hq with rfl | hq
    · exact Ne.symm (hne (Dp, odp) (List.mem_append_right _ (.head _)))
    · exact u1 q hq) u2 hs4 ho4

/-- `_law_octets(_law_number(script, 22), size) if _law_number(script, 23) % 2 else points[0].data` -/
theorem el_alt {la Dp x0 : Addr} {vs : List Value} {ns : List Int} {sn zn pn : Str} {z : Nat} {items : Array Value} {dd : Option Addr} {v0 : Value} {b0 : Array UInt8} {t1 : Tok} {n k1' k2' k3' k4' : Nat} {p1 p2 p3 p4 p5 p6 p7 p8 p9 p10 p11 p12 p13 p14 p15 p16 p17 p18 : Pos}
    (B : Below A₀ base outer h₀) (F : Fr h₀ L s.heap m) (X : (hd.heap_39 w.params).In h₀) (N : News h₀ L s.heap news) (T : Top p loose mean mg mb h₀) (hk : cs.kind = .function)
    (hl : base.IsList la vs.toArray) (hi : IntsAre vs ns) (hn : ns.length < 2 ^ 62) (hz1 : 1 ≤ z) (hz4 : z ≤ 4) (hd9 : dp + 3 < recursionLimit) (hu9 : un + 24 < cLine)
    (hck : cenv.scope.kind = .function) (hg : cenv.globals = mainGlobals) (hk1 : cenv.kindOf (Str.ofString "_law_number") = some .globalImplicit) (hk2 : cenv.kindOf (Str.ofString "_law_octets") = some .globalImplicit)
    (hsn : ∀ h' tk, Fr h₀ L h' m → News h₀ L h' news → ∀ p Q E, Q (.ref la) { s with heap := h', toks := tk } → wpAny (model PySem.Challenge.rw_jb0038_01.row.prog w) (ktrTop dp un gd cn cs L a ccd cl outer) (eval (.Name sn p) cenv) Q E { s with heap := h', toks := tk })
    (he : ∀ h' tk, Fr h₀ L h' m → News h₀ L h' news → ∀ p Q E, (∀ t tk', Q (.int (z : Nat) t) { s with heap := h', toks := tk' }) → wpAny (model PySem.Challenge.rw_jb0038_01.row.prog w) (ktrTop dp un gd cn cs L a ccd cl outer) (eval (.Name zn p) cenv) Q E { s with heap := h', toks := tk })
    (hpn : ∀ h' tk, Fr h₀ L h' m → News h₀ L h' news → ∀ p Q E, Q (.ref Dp) { s with heap := h', toks := tk } → wpAny (model PySem.Challenge.rw_jb0038_01.row.prog w) (ktrTop dp un gd cn cs L a ccd cl outer) (eval (.Name pn p) cenv) Q E { s with heap := h', toks := tk })
    (hpl : ∀ h', Fr h₀ L h' m → News h₀ L h' news → h'.IsList Dp items) (h0 : items[0]? = some (.ref x0)) (hx0 : (x0, shareObj dd v0 (.bytes b0 t1) n) ∈ news)
    (hq : ∀ b t h2 tk', (b = octets (numAt ns 22) z ∨ b = b0) → Fr h₀ L h2 m → News h₀ L h2 news → Q (.bytes b t) { s with heap := h2, toks := tk' })
    (hst0 : starEach [.Constant (.int 23) k1' p3] cenv = (false, eval (.Constant (.int 23) k1' p3) cenv) :: starEach [] cenv)
    (hst1 : starEach [.Constant (.int 22) k3' p10] cenv = (false, eval (.Constant (.int 22) k3' p10) cenv) :: starEach [] cenv)
    (hst2 : starEach [.Name zn p13] cenv = (false, eval (.Name zn p13) cenv) :: starEach [] cenv)
    (hpl2 : (backTo p14 (starEach [.Name zn p13] cenv)).any (·.1) = false)
    (htr : ∀ whole, isTrue (.BinOp (.Call (.Name (Str.ofString "_law_number") p1) [.Name sn p2, .Constant (.int 23) k1' p3] [] p4) .Mod (.Constant (.int 2) k2' p5) p6) cenv whole = (do let v ← whole; standAt (Expr.BinOp (.Call (.Name (Str.ofString "_law_number") p1) [.Name sn p2, .Constant (.int 23) k1' p3] [] p4) .Mod (.Constant (.int 2) k2' p5) p6).pos; holding [v] (truthy v))) :
    wpAny (model PySem.Challenge.rw_jb0038_01.row.prog w) (ktrTop dp un gd cn cs L a ccd cl outer) (eval (.IfExp (.BinOp (.Call (.Name (Str.ofString "_law_number") p1) [.Name sn p2, .Constant (.int 23) k1' p3] [] p4) .Mod (.Constant (.int 2) k2' p5) p6)
      (.Call (.Name (Str.ofString "_law_octets") p7) [.Call (.Name (Str.ofString "_law_number") p8) [.Name sn p9, .Constant (.int 22) k3' p10] [] p11, .Name zn p13] [] p14)
      (.Attribute (.Subscript (.Name pn p15) (.Constant (.int 0) k4' p16) p17) (Str.ofString "data") p12) p18) cenv) Q E s := by
  obtain ⟨hh, gs, dr, tk0, os0⟩ := s
  dsimp only at F N hsn he hpn hq ⊢
  refine IfExp_ ?_
  refine isTrue_plain ?_ (htr _)
  refine wpAny_BinOp ?_
  refine el_number (k := 23) B F X N T hk hl hi hn (by decide) (room hd9 (by decide)) (room hu9 (by decide)) hck hg hk1 (fun Q E h => hsn hh tk0 F N _ _ _ h) (fun Q E h => wpAny_Constant_int (h _ _)) ?_ hst0
  intro ta h1 tk1 F1 N1
  dsimp only
  refine wpAny_Constant_int ?_
  refine mod_int' (by decide) ?_
  refine PyProof.Rows.truthy_int ?_
  split
  · refine el_oct (k := 22) B F1 X N1 T hk hl hi hn hz1 hz4 (room hd9 (by decide)) (room hu9 (by decide)) hck hg hk1 hk2 ?_ ?_ ?_ hst1 hst2 hpl2
    · intro h' tk F' N' p Q E h
      exact hsn h' tk F' N' _ _ _ h
    · intro h' tk F' N' Q E h
      exact he h' tk F' N' _ _ _ h
    · intro t3 h3 tk3 F3 N3
      exact hq _ _ _ _ (.inl rfl) F3 N3
  · refine Attribute_any_ ?_
    refine Subscript_ ?_
    refine hpn h1 _ F1 N1 _ _ _ ?_
    refine wpAny_Constant_int ?_
    refine el_item (hs := by with_unfolding_all rfl) (ht := by intro _; with_unfolding_all rfl) (k := 0) (hpl _ F1 N1) (by decide) h0 ?_
    refine attr_free (i := 1) (.inr ⟨rfl, rfl⟩) rfl (room (c := 2) hd9 (by decide)) (room (c := 17) hu9 (by decide)) (X.keeps F1.keep) (T.keeps F1.keep) (N1 _ hx0).1 rfl fun s' k => ?_
    rw [if_neg (by decide : ¬ (1 : Int) = 0)]
    have F2 := fr_keeps F1 k
    have N2 := news_keeps N1 k
    obtain ⟨h2, tk2, rfl, _⟩ := k
    exact hq _ _ _ _ (.inr rfl) F2 N2
end

/-- the shares as they lie after a statement -/
structure PtsX (s₁ : Shared) (G : Heap) (L : Addr) (m1 : Str → Option Value) (base : List (Addr × Obj)) (Dp : Addr) (ok : List (Nat × Array UInt8) → Prop) (s' : Shared) (shs : List (Addr × Obj)) (odp : Obj) (ysp : List Value) (pts : List (Nat × Array UInt8)) : Prop where
  os : s'.os = s₁.os
  gens : s'.gens = s₁.gens
  drawn : s'.drawn = s₁.drawn
  F : Fr G L s'.heap m1
  N : News G L s'.heap ((Dp, odp) :: (shs ++ base))
  ol : IsListObj odp ysp
  od : odp.dict = none
  len : ysp.length = pts.length
  ap : ∀ q ∈ shs, ∀ r ∈ base, r.1 ≠ q.1
  apD : ∀ q ∈ shs ++ base, q.1 ≠ Dp
  sh : ∀ (j : Nat) v q, ysp[j]? = some v → pts[j]? = some q → ShareAt shs v q
  l9 : pts.length ≤ 9
  sz : ∀ q ∈ pts, q.1 < 256 ∧ q.2.size ≤ 4
  ok : ok pts
noncomputable def PtsSt (s₁ : Shared) (G : Heap) (L : Addr) (m1 : Str → Option Value) (base : List (Addr × Obj)) (Dp : Addr) (ok : List (Nat × Array UInt8) → Prop) (s' : Shared) : Prop :=
  ∃ (shs : List (Addr × Obj)) (odp : Obj) (ysp : List Value) (pts : List (Nat × Array UInt8)), PtsX s₁ G L m1 base Dp ok s' shs odp ysp pts
/-- one share more -/
theorem ptsSt_more {s₁ s' : Shared} {G : Heap} {L : Addr} {m1 : Str → Option Value} {base shs : List (Addr × Obj)} {Dp x : Addr} {odp odp' : Obj} {ysp : List Value} {pts : List (Nat × Array UInt8)} {ok : List (Nat × Array UInt8) → Prop} {dd : Option Addr} {a : Nat} {ta tb : Tok} {b : Array UInt8}
    (h1 : s'.os = s₁.os) (h2 : s'.gens = s₁.gens) (h3 : s'.drawn = s₁.drawn) (F : Fr G L s'.heap m1) (N : News G L s'.heap ((x, shareObj dd (.int (a : Nat) ta) (.bytes b tb) 0) :: (Dp, odp') :: (shs ++ base))) (hx : ∀ q ∈ (Dp, odp) :: (shs ++ base), q.1 ≠ x)
    (ho : IsListObj odp' (ysp ++ [.ref x])) (hd : odp'.dict = none) (hlen : ysp.length = pts.length) (hap : ∀ q ∈ shs, ∀ r ∈ base, r.1 ≠ q.1) (hap2 : ∀ q ∈ shs ++ base, q.1 ≠ Dp) (hsh : ∀ (j : Nat) v q, ysp[j]? = some v → pts[j]? = some q → ShareAt shs v q)
    (hl : pts.length ≤ 8) (hp : ∀ q ∈ pts, q.1 < 256 ∧ q.2.size ≤ 4) (ha : a < 256) (hb : b.size ≤ 4) (hok : ok (pts ++ [(a, b)])) : PtsSt s₁ G L m1 base Dp ok s' := by
  refine ⟨(x, shareObj dd (.int (a : Nat) ta) (.bytes b tb) 0) :: shs, odp', ysp ++ [.ref x], pts ++ [(a, b)], h1, h2, h3, F, fun q hq => N q ?_, ho, hd, by simp [hlen], fun q hq r hr => ?_, fun q hq => ?_, ?_, by rw [List.length_append]; exact Nat.succ_le_succ hl, fun q hq => ?_, hok⟩
  · rcases List.mem_cons.mp hq with rfl | hq
    · exact .tail _ (.head _)
    · rcases List.mem_cons.mp hq with rfl | hq
      · exact .head _
      · exact .tail _ (.tail _ hq)
  · rcases List.mem_cons.mp hq with rfl | hq
    · exact hx r (.tail _ (List.mem_append_right _ hr))
    · exact hap q hq r hr
  · rcases List.mem_cons.mp hq with rfl | hq
    · exact Ne.symm (hx (Dp, odp) (.head _))
    · exact hap2 q hq
  · refine shares_snoc (pts := pts ++ [(a, b)]) (p := (a, b)) hlen ?_ fun j v q hv hq => ?_
    · rw [List.getElem?_append_right (Nat.le_refl _), Nat.sub_self]; rfl
    · have hj : j < pts.length := by
        have := (List.getElem?_eq_some_iff.mp hv).1
        omega
      rw [List.getElem?_append_left hj] at hq
      exact hsh j v q hv hq
  · rcases List.mem_append.mp hq with hq | hq
    · exact hp q hq
    · rw [List.mem_singleton.mp hq]
      exact ⟨ha, hb⟩
theorem octets_size_int (n : Int) (z : Nat) : (octets n z).size = z := by
  unfold octets
  simp [KTBy.little_length]
end Mine
end

-- part KD
section
open PySem PySem.W PySem.Calls PyProof.Rows
namespace Mine
set_option maxRecDepth 100000
set_option maxHeartbeats 1000000
set_option linter.unusedVariables false
section
variable {w : World} {A : Around} {s : Shared} {E : Value → Shared → Prop} {cenv : Env}
theorem el_test {Q : Bool → Shared → Prop} {cnt sp k : Nat} {tc ts : Tok} {cn sn : Str} {whole : Sem Value} {k1 k2 : Nat} {p1 p2 p3 p4 p5 p6 p7 : Pos}
    (hc : ∀ tk p Q E, Q (.int (cnt : Nat) tc) { s with toks := tk } → wpAny (model PySem.Challenge.rw_jb0038_01.row.prog w) A (eval (.Name cn p) cenv) Q E { s with toks := tk })
    (hs : ∀ tk p Q E, Q (.int (sp : Nat) ts) { s with toks := tk } → wpAny (model PySem.Challenge.rw_jb0038_01.row.prog w) A (eval (.Name sn p) cenv) Q E { s with toks := tk })
    (hQ : ∀ tk, Q (decide (0 < cnt ∧ sp = k)) { s with toks := tk }) :
    wpAny (model PySem.Challenge.rw_jb0038_01.row.prog w) A (isTrue (.BoolOp .And [.Compare (.Name cn p1) [.Gt] [.Constant (.int 0) k1 p2] p3, .Compare (.Name sn p4) [.Eq] [.Constant (.int (k : Nat)) k2 p5] p6] p7) cenv whole) Q E s := by
  obtain ⟨hh, gs, dr, tk0, os0⟩ := s
  dsimp only at hc hs hQ ⊢
  refine isTrue_and ?_
  refine wpAny_isTrue_Compare1 ?_
  refine hc tk0 _ _ _ ?_
  refine wpAny_Constant_int ?_
  refine PySem.P.gt_int ?_
  refine wpAny_truthy_bool ?_
  dsimp only
  by_cases h0 : 0 < cnt
  · rw [if_pos (by simp; omega)]
    refine isTrue_and ?_
    refine wpAny_isTrue_Compare1 ?_
    refine hs _ _ _ _ ?_
    refine wpAny_Constant_int ?_
    refine PySem.P.eq_int ?_
    refine wpAny_truthy_bool ?_
    dsimp only
    by_cases h1 : sp = k
    · rw [if_pos (by simp [h1])]
      refine isTrue_and_nil ?_
      have := hQ (tk0 + 1 + 1)
      rw [decide_eq_true ⟨h0, h1⟩] at this
      exact this
    · rw [if_neg (by simp; omega)]
      have := hQ (tk0 + 1 + 1)
      rw [decide_eq_false (fun q => h1 q.2)] at this
      exact this
  · rw [if_neg (by simp; omega)]
    have := hQ (tk0 + 1)
    rw [decide_eq_false (fun q => h0 q.1)] at this
    exact this
end

theorem ints_of_all : ∀ (l : List Value), (∀ v ∈ l, ∃ (x : Nat) (t : Tok), x < 256 ∧ v = .int ((x : Nat) : Int) t) → ∃ xs : List Nat, IntsAre l (xs.map fun k : Nat => (k : Int)) ∧ ∀ x ∈ xs, x < 256
  | [], _ => ⟨[], .nil, nofun⟩
  | v :: l, h => by
    obtain ⟨x, t, hx, rfl⟩ := h v (.head _)
    obtain ⟨xs, h1, h2⟩ := ints_of_all l fun v hv => h v (.tail _ hv)
    refine ⟨x :: xs, .cons _ _ h1, fun y hy => ?_⟩
    rcases List.mem_cons.mp hy with rfl | hy
    · exact hx
    · exact h2 y hy
theorem slicePick_mem {items : Array Value} {lo hi st : Option Int} {v : Value} (h : v ∈ (slicePick items lo hi st).toList) : v ∈ items.toList := by
  unfold slicePick at h
  obtain ⟨i, _, e⟩ := List.mem_filterMap.mp (by simpa using h)
  exact Array.mem_toList_iff.mpr (Array.mem_of_getElem? e)
section
variable {w : World} {p : Program} {loose : List Str} {mean : ExcName → Option Value} {mg mb : Str → Option Value} {dp un : Nat} {gd : Option (List Code)} {cn : Str} {cs : Scope} {a : Addr} {ccd : Value} {cl : List (Str × Addr)} {outer : List Env} {A₀ : Around} {base h₀ : Heap} {L : Addr} {m : Str → Option Value} {news : List (Addr × Obj)} {s : Shared} {Q E : Value → Shared → Prop} {cenv : Env}
/-- `count == 0 or spoil in (1, 2)` -/
theorem el_refused {A : Around} {cnt sp : Nat} {tc ts : Tok} {cn sn : Str} {k1 k2 k3 k4 : Nat} {p1 p2 p3 p4 p5 p6 p7 p8 p9 : Pos}
    (F : Fr h₀ L s.heap m) (N : News h₀ L s.heap news)
    (hc : ∀ tk p Q E, Q (.int (cnt : Nat) tc) { s with toks := tk } → wpAny (model PySem.Challenge.rw_jb0038_01.row.prog w) A (eval (.Name cn p) cenv) Q E { s with toks := tk })
    (hs : ∀ tk p Q E, Q (.int (sp : Nat) ts) { s with toks := tk } → wpAny (model PySem.Challenge.rw_jb0038_01.row.prog w) A (eval (.Name sn p) cenv) Q E { s with toks := tk })
    (hQ : ∀ h' tk, Fr h₀ L h' m → News h₀ L h' news → Q (.bool (decide (cnt = 0 ∨ sp = 1 ∨ sp = 2))) { s with heap := h', toks := tk })
    (hst1 : starEach [.Constant (.int 1) k2 p5, .Constant (.int 2) k3 p6] cenv = (false, eval (.Constant (.int 1) k2 p5) cenv) :: starEach [.Constant (.int 2) k3 p6] cenv)
    (hst2 : starEach [.Constant (.int 2) k3 p6] cenv = (false, eval (.Constant (.int 2) k3 p6) cenv) :: starEach [] cenv) :
    wpAny (model PySem.Challenge.rw_jb0038_01.row.prog w) A (eval (.BoolOp .Or [.Compare (.Name cn p1) [.Eq] [.Constant (.int 0) k1 p2] p3, .Compare (.Name sn p4) [.In] [.Tuple [.Constant (.int 1) k2 p5, .Constant (.int 2) k3 p6] k4 p7] p8] p9) cenv) Q E s := by
  obtain ⟨hh, gs, dr, tk0, os0⟩ := s
  dsimp only at F N hc hs hQ ⊢
  refine BoolOp_or ?_
  refine wpAny_Compare1 ?_
  refine hc tk0 _ _ _ ?_
  refine wpAny_Constant_int ?_
  refine PySem.P.eq_int ?_
  refine wpAny_truthy_bool ?_
  dsimp only
  by_cases h0 : cnt = 0
  · have e : (((cnt : Nat) : Int) == 0) = true := by simp [h0]
    rw [e, if_pos rfl]
    have := hQ hh (tk0 + 1) F N
    rw [decide_eq_true (.inl h0)] at this
    exact this
  · have e : (((cnt : Nat) : Int) == 0) = false := by simp [h0]
    rw [e, if_neg (by decide)]
    refine BoolOp_one ?_
    refine wpAny_Compare1 ?_
    refine hs _ _ _ _ ?_
    refine wpAny_Tuple ?_
    refine args_cons ?_ hst1
    refine wpAny_Constant_int ?_
    refine args_cons ?_ hst2
    refine wpAny_Constant_int ?_
    refine args_nil ?_
    refine ⟨by show 2 ≤ sizeLine; decide, ?_⟩
    refine in_tuple_ints (ns := [1, 2]) ⟨_, Heap.get?_push_size _ rfl, rfl, _, rfl⟩ (.cons _ _ (.cons _ _ .nil)) ?_
    have e3 : ([1, 2] : List Int).any (· == ((sp : Nat) : Int)) = decide (cnt = 0 ∨ sp = 1 ∨ sp = 2) := by
      rw [Bool.eq_iff_iff]
      simp only [List.any_cons, List.any_nil, Bool.or_false, Bool.or_eq_true, beq_iff_eq, decide_eq_true_eq]
      omega
    rw [e3]
    exact hQ _ _ (F.push _) (News.pushKeep N _)

/-- the places asked -/
theorem el_xs {la D2 : Addr} {vs : List Value} {ns : List Int} {od2 : Obj} {ys2 : List Value} {plc : List Nat} {sn pn : Str} {k1 k2 k3 k4 k5 : Nat} {p1 p2 p3 p4 p5 p6 p7 p8 p9 p10 p11 p12 p13 p14 p15 : Pos}
    (B : Below A₀ base outer h₀) (F : Fr h₀ L s.heap m) (X : (hd.heap_39 w.params).In h₀) (N : News h₀ L s.heap news) (T : Top p loose mean mg mb h₀) (hk : cs.kind = .function)
    (hl : base.IsList la vs.toArray) (hi : IntsAre vs ns) (hn : ns.length < 2 ^ 62) (hd9 : dp + 3 < recursionLimit) (hu9 : un + 24 < cLine)
    (hck : cenv.scope.kind = .function) (hg : cenv.globals = mainGlobals) (hk1 : cenv.kindOf (Str.ofString "_law_number") = some .globalImplicit)
    (hm2 : (D2, od2) ∈ news) (hod2 : IsListObj od2 ys2) (hpi : IntsAre ys2 (plc.map fun k : Nat => (k : Int))) (hplc : ∀ x ∈ plc, x < 256) (hpl : plc.length ≤ 9)
    (hsn : ∀ h' tk, Fr h₀ L h' m → News h₀ L h' news → ∀ p Q E, Q (.ref la) { s with heap := h', toks := tk } → wpAny (model PySem.Challenge.rw_jb0038_01.row.prog w) (ktrTop dp un gd cn cs L a ccd cl outer) (eval (.Name sn p) cenv) Q E { s with heap := h', toks := tk })
    (hpn : ∀ h' tk, Fr h₀ L h' m → News h₀ L h' news → ∀ p Q E, Q (.ref D2) { s with heap := h', toks := tk } → wpAny (model PySem.Challenge.rw_jb0038_01.row.prog w) (ktrTop dp un gd cn cs L a ccd cl outer) (eval (.Name pn p) cenv) Q E { s with heap := h', toks := tk })
    (hQ : ∀ l ol vsx (xsx : List Nat) h' tk, Fr h₀ L h' m → News h₀ L h' ((l, ol) :: news) → (∀ q ∈ news, q.1 ≠ l) → IsListObj ol vsx → IntsAre vsx (xsx.map fun k : Nat => (k : Int)) → (∀ x ∈ xsx, x < 256) → Q (.ref l) { s with heap := h', toks := tk })
    (hst0 : starEach [.Constant (.int 20) k1 p3] cenv = (false, eval (.Constant (.int 20) k1 p3) cenv) :: starEach [] cenv)
    (hst1 : starEach [.BinOp (.Call (.Name (Str.ofString "_law_number") p1) [.Name sn p2, .Constant (.int 20) k1 p3] [] p4) .Mod (.Constant (.int 256) k2 p5) p6, .Constant (.int 254) k3 p7, .Constant (.int 255) k4 p8] cenv = (false, eval (.BinOp (.Call (.Name (Str.ofString "_law_number") p1) [.Name sn p2, .Constant (.int 20) k1 p3] [] p4) .Mod (.Constant (.int 256) k2 p5) p6) cenv) :: starEach [.Constant (.int 254) k3 p7, .Constant (.int 255) k4 p8] cenv)
    (hst2 : starEach [.Constant (.int 254) k3 p7, .Constant (.int 255) k4 p8] cenv = (false, eval (.Constant (.int 254) k3 p7) cenv) :: starEach [.Constant (.int 255) k4 p8] cenv)
    (hst3 : starEach [.Constant (.int 255) k4 p8] cenv = (false, eval (.Constant (.int 255) k4 p8) cenv) :: starEach [] cenv) :
    wpAny (model PySem.Challenge.rw_jb0038_01.row.prog w) (ktrTop dp un gd cn cs L a ccd cl outer) (eval (.BinOp (.List [.BinOp (.Call (.Name (Str.ofString "_law_number") p1) [.Name sn p2, .Constant (.int 20) k1 p3] [] p4) .Mod (.Constant (.int 256) k2 p5) p6, .Constant (.int 254) k3 p7, .Constant (.int 255) k4 p8] p9) .Add
      (.Subscript (.Name pn p10) (.Slice (some (.UnaryOp .USub (.Constant (.int 1) k5 p11) p12)) none none p13) p14) p15) cenv) Q E s := by
  obtain ⟨hh, gs, dr, tk0, os0⟩ := s
  dsimp only at F N hsn hpn hQ ⊢
  refine wpAny_BinOp ?_
  refine wpAny_List ?_
  refine args_cons ?_ hst1
  refine wpAny_BinOp ?_
  refine el_number (k := 20) B F X N T hk hl hi hn (by decide) (room hd9 (by decide)) (room hu9 (by decide)) hck hg hk1 (fun Q E h => hsn hh tk0 F N _ _ _ h) (fun Q E h => wpAny_Constant_int (h _ _)) ?_ hst0
  intro ta h1 tk1 F1 N1
  dsimp only
  refine wpAny_Constant_int ?_
  refine mod_int' (by decide) ?_
  rw [show (256 : Int) = ((256 : Nat) : Int) from rfl, fmodN' _ 256 (by decide)]
  have hx0 : (numAt ns 20 % ((256 : Nat) : Int)).toNat < 256 := by
    have h2 := Int.emod_nonneg (numAt ns 20) (show ((256 : Nat) : Int) ≠ 0 by decide)
    have h3 := Int.emod_lt_of_pos (numAt ns 20) (show (0 : Int) < ((256 : Nat) : Int) by decide)
    omega
  generalize (numAt ns 20 % ((256 : Nat) : Int)).toNat = x0 at hx0 ⊢
  refine args_cons ?_ hst2
  refine wpAny_Constant_int ?_
  refine args_cons ?_ hst3
  refine wpAny_Constant_int ?_
  refine args_nil ?_
  refine ⟨by show 3 ≤ sizeLine; decide, ?_⟩
  have F2 := F1.push { cls := .type "list", data := .seq [Value.int ((x0 : Nat) : Int) (tk1 + 1), .int 254 (tk1 + 1 + 1), .int 255 (tk1 + 1 + 1 + 1)].toArray }
  have N2 := News.push F1 N1 { cls := .type "list", data := .seq [Value.int ((x0 : Nat) : Int) (tk1 + 1), .int 254 (tk1 + 1 + 1), .int 255 (tk1 + 1 + 1 + 1)].toArray }
  have nl : ∀ q ∈ news, q.1 ≠ h1.objs.size := fun q hq => Nat.ne_of_lt (Heap.lt_size (N1 q hq).1)
  generalize hla : [Value.int ((x0 : Nat) : Int) (tk1 + 1), .int 254 (tk1 + 1 + 1), .int 255 (tk1 + 1 + 1 + 1)] = l1 at F2 N2
  have hl1 : l1.length = 3 := by rw [← hla]; rfl
  have all1 : ∀ v ∈ l1, ∃ (x : Nat) (t : Tok), x < 256 ∧ v = .int ((x : Nat) : Int) t := by
    rw [← hla]
    intro v hv
    simp only [List.mem_cons, List.not_mem_nil, or_false] at hv
    rcases hv with rfl | rfl | rfl
    · exact ⟨_, _, hx0, rfl⟩
    · exact ⟨254, _, by decide, rfl⟩
    · exact ⟨255, _, by decide, rfl⟩
  have all2 : ∀ v ∈ ys2, ∃ (x : Nat) (t : Tok), x < 256 ∧ v = .int ((x : Nat) : Int) t := by
    intro v hv
    obtain ⟨i, hi', rfl⟩ := List.mem_iff_getElem.mp hv
    obtain ⟨t, e⟩ := hpi.int_at i _ (List.getElem?_eq_getElem hi')
    have hl2 : i < plc.length := by rw [hpi.length, List.length_map] at hi'; exact hi'
    refine ⟨plc[i], t, hplc _ (List.getElem_mem _), ?_⟩
    rw [e]
    simp [List.getD_eq_getElem?_getD, hl2]
  generalize hA1 : h1.objs.size = A1 at *
  refine Subscript_ ?_
  refine hpn _ _ F2 (fun q hq => N2 q (.tail _ hq)) _ _ _ ?_
  refine wpAny_Slice ?_
  show wpAny _ _ (eval (.UnaryOp .USub (.Constant (.int 1) k5 p11) p12) cenv) _ _ _
  refine wpAny_UnaryOp ?_
  refine wpAny_Constant_int ?_
  refine PyProof.Rows.neg_int ?_
  show wpAny _ _ (pure _) _ _ _
  refine wpAny_pure ?_
  show wpAny _ _ (pure _) _ _ _
  refine wpAny_pure ?_
  dsimp only
  refine slice_list (s := { heap := h1.push { cls := .type "list", data := .seq l1.toArray }, gens := gs, drawn := dr, toks := _, os := os0 }) (l := D2) (items := ys2.toArray) (lo := some (-1)) (hi := none) F2 N2 (hod2.at (N2 (D2, od2) (.tail _ hm2)).1) (.int _ _) .none (fun h3 F3 N3 => ?_) (hsz := by rw [List.size_toArray, hpi.length, List.length_map]; exact Nat.le_trans hpl (by decide +kernel))
  dsimp only at N3 ⊢
  have hz2 : (slicePick ys2.toArray (some (-1)) none none).size ≤ 9 := by
    have h5 := slicePick_size_le ys2.toArray (some (-1)) none none
    have e5 : ys2.toArray.size = plc.length := by rw [List.size_toArray, hpi.length, List.length_map]
    omega
  refine PySem.P.add_list (N3 _ (.tail _ (.head _))).1 (N3 _ (.head _)).1 ?_ (by rw [List.size_toArray]; exact Nat.le_trans (show l1.length + _ ≤ 12 by omega) (by decide +kernel))
  obtain ⟨xsx, hx1, hx2⟩ := ints_of_all (l1 ++ (slicePick ys2.toArray (some (-1)) none none).toList) (fun v hv => by
    rcases List.mem_append.mp hv with hv | hv
    · exact all1 v hv
    · exact all2 v (by simpa using slicePick_mem hv))
  refine hQ h3.objs.size { cls := .type "list", data := .seq (l1.toArray ++ slicePick ys2.toArray (some (-1)) none none) } _ xsx _ _ (F3.push _) (fun q hq => ?_) (fun q hq => ?_) ⟨rfl, 0, ?_⟩ hx1 hx2
  · rcases List.mem_cons.mp hq with rfl | hq
    · exact (News.push F3 N3 _) _ (.head _)
    · exact (News.push F3 N3 _) _ (.tail _ (.tail _ (.tail _ hq)))
  · exact Nat.ne_of_lt (Heap.lt_size (N3 q (.tail _ (.tail _ hq))).1)
  · show Data.seq _ _ = Data.seq _ _
    congr 1
    apply Array.ext'
    simp
end
end Mine
end

-- part KEE
section
open PySem PySem.W PySem.Calls PyProof.Rows
namespace Mine
set_option maxRecDepth 100000
set_option maxHeartbeats 1000000
set_option linter.unusedVariables false
theorem law_end {s₁ s' : Shared} {L : Addr} {m : Str → Option Value} {ps : Array Value} {cl : Str → Option Addr} {mean : ExcName → Option Value} {args : List WData} (hT : TabsAt [(160, 156)] s₁.heap) (F : Fr (ghostOf s₁.heap [(160, 156)]) L s'.heap m) (hP : s'.heap.get? 156 = some (tabObj ps))
    (hos : s'.os = s₁.os) (hg : AllBare s'.gens) : GoodWG PySem.Challenge.rw_jb0038_01.row.claim cl mean args s₁ (.ok (.ret (.bool true))) s' := by
  have keep : ∀ b o, b ≠ 156 → s₁.heap.get? b = some o → s'.heap.get? b = some o := fun b o hb e => F.keep b o (ghost_ne e (by simpa using hb))
  have h2 := (hT (160, 156) (.head _)).2
  refine ⟨.inl ⟨.bool true, .bool true, [], rfl, raisesW_false (by wrow_none_raised), .bool true, by wrow_post, fun _ => ⟨.nil, fun _ ha => nomatch ha⟩⟩, ⟨fun b o e => ?_, fun b o e => ?_⟩, hos, hg⟩
  · by_cases hb : b = 156
    · subst hb
      rw [h2] at e
      cases e
      exact .inr (.inl ⟨((hT (160, 156) (.head _)).1.tab h2).isCodeTable, rfl, #[], ps, rfl, by rw [Array.empty_append]; exact hP⟩)
    · exact .inl (keep b o hb e)
  · by_cases hb : b = 156
    · subst hb
      exact ⟨_, hP⟩
    · exact ⟨o, keep b o hb e⟩
end Mine
end

-- part KV
section
open PySem PySem.W PySem.Calls PyProof.Rows
namespace Mine
set_option maxRecDepth 100000
set_option maxHeartbeats 1000000
set_option linter.unusedVariables false
theorem inst_name (w : World) : nsIn (hd.heap_39 w.params) mainGlobals (Str.ofString "isinstance") = some none := by kernel_rfl
theorem bytes_name (w : World) : nsIn (hd.heap_39 w.params) mainGlobals (Str.ofString "bytes") = some none := by kernel_rfl
theorem interp_keep (w : World) : keepIn (hd.heap_39 w.params) (.ref 161) = true := by kernel_rfl
theorem interp_name (w : World) : nsIn (hd.heap_39 w.params) mainGlobals (Str.ofString "_interpolate") = some (some (.ref 161)) := by kernel_rfl
theorem ty_bytes : typeOf (.type "bytes") = pure (.type "type") := by kernel_rfl
theorem sub_bytes : isSubtype (.type "bytes") (.type "bytes") = pure true := by rw [isSubtype_type]; kernel_rfl

section
variable {w : World} {p : Program} {loose : List Str} {mean : ExcName → Option Value} {mg mb : Str → Option Value} {A : Around} {s : Shared} {Q E : Value → Shared → Prop} {cenv : Env}
theorem el_isbytes {nm : Str} {b : Array UInt8} {t : Tok} {p1 p2 p3 p4 : Pos} (X : (hd.heap_39 w.params).In s.heap) (T : Top p loose mean mg mb s.heap)
    (hk : cenv.scope.kind = .function) (hg : cenv.globals = mainGlobals) (hb : cenv.builtins = builtinsNs) (hl : cenv.kindOf (Str.ofString "isinstance") = some .globalImplicit) (hl2 : cenv.kindOf (Str.ofString "bytes") = some .globalImplicit)
    (hnm : ∀ Q E, Q (.bytes b t) s → wpAny (model PySem.Challenge.rw_jb0038_01.row.prog w) A (eval (.Name nm p1) cenv) Q E s)
    (h : Q (.bool true) s) (hst : starEach [.Name nm p1, .Name (Str.ofString "bytes") p2] cenv = (false, eval (.Name nm p1) cenv) :: starEach [.Name (Str.ofString "bytes") p2] cenv) (hst2 : starEach [.Name (Str.ofString "bytes") p2] cenv = (false, eval (.Name (Str.ofString "bytes") p2) cenv) :: starEach [] cenv) :
    wpAny (model PySem.Challenge.rw_jb0038_01.row.prog w) A (eval (.Call (.Name (Str.ofString "isinstance") p3) [.Name nm p1, .Name (Str.ofString "bytes") p2] [] p4) cenv) Q E s := by
  refine Call_ ?_
  refine Name_function_global hk hl (loadGlobal_builtin (by rw [hg]; exact T.g) (mg_none_of X T.g (inst_name w)) (by rw [hb]; exact T.b) (v := .builtin "isinstance") ((T.builtins _ (by decide)).trans (by boot_by_name)) ?_)
  refine callWith_method1 (first := []) ?_ hst
  refine args_cons ?_ hst
  refine hnm _ _ ?_
  refine args_cons ?_ hst2
  refine Name_function_global hk hl2 (loadGlobal_builtin (by rw [hg]; exact T.g) (mg_none_of X T.g (bytes_name w)) (by rw [hb]; exact T.b) (v := .type "bytes") ((T.builtins _ (by decide)).trans (by boot_by_name)) ?_)
  refine args_nil ?_
  exact PyProof.Rows.call_isinstance_yes (typeIs_bytes s b t) ty_bytes sub_bytes h
end

section
variable {w : World} {p : Program} {loose : List Str} {mean : ExcName → Option Value} {mg mb : Str → Option Value} {dp un : Nat} {gd : Option (List Code)} {cn : Str} {cs : Scope} {a : Addr} {ccd : Value} {cl : List (Str × Addr)} {outer : List Env} {A₀ : Around} {base h₀ : Heap} {L : Addr} {m : Str → Option Value} {news : List (Addr × Obj)} {s : Shared} {Q E : Value → Shared → Prop} {cenv : Env}
/-- what the law says of the answer told -/
theorem el_verdict {Q : Bool → Shared → Prop} {c : Addr} {oc : Obj} {vs : List Value} {ks : List Nat} {x0 z : Nat} {tx tz : Tok} {rf : Bool} {tv : Value} {nt nr nc nx nz : Str} {whole : Sem Value} {kk : Nat} {p1 p2 p3 p4 p5 p6 p7 p8 p9 p10 p11 p12 p13 p14 p16 p17 p18 p19 p20 p21 p22 : Pos}
    (B : Below A₀ base outer h₀) (F : Fr h₀ L s.heap m) (X : (hd.heap_39 w.params).In h₀) (N : News h₀ L s.heap news) (T : Top p loose mean mg mb h₀) (hk : cs.kind = .function)
    (hc : (c, oc) ∈ news) (hoc : IsListObj oc vs) (hi : IntsAre vs (ks.map fun k : Nat => (k : Int))) (hlt : ∀ k ∈ ks, k < 2 ^ 24) (hx : x0 < 256) (hz1 : 1 ≤ z) (hz4 : z ≤ 4) (hd9 : dp + 4 < recursionLimit) (hu9 : un + 24 < cLine)
    (hck : cenv.scope.kind = .function) (hg : cenv.globals = mainGlobals) (hb : cenv.builtins = builtinsNs) (hk2 : cenv.kindOf (Str.ofString "_law_octets") = some .globalImplicit) (hk3 : cenv.kindOf (Str.ofString "_law_value") = some .globalImplicit) (hk4 : cenv.kindOf (Str.ofString "isinstance") = some .globalImplicit) (hk5 : cenv.kindOf (Str.ofString "bytes") = some .globalImplicit)
    (htv : if rf then ∃ t, tv = .str (Str.ofString "refused") t else ∃ t, tv = .bytes (octets ((valueN ks x0 : Nat) : Int) z) t)
    (hnt : ∀ h' tk, Fr h₀ L h' m → News h₀ L h' news → ∀ p Q E, Q tv { s with heap := h', toks := tk } → wpAny (model PySem.Challenge.rw_jb0038_01.row.prog w) (ktrTop dp un gd cn cs L a ccd cl outer) (eval (.Name nt p) cenv) Q E { s with heap := h', toks := tk })
    (hnr : ∀ h' tk, Fr h₀ L h' m → News h₀ L h' news → ∀ p Q E, Q (.bool rf) { s with heap := h', toks := tk } → wpAny (model PySem.Challenge.rw_jb0038_01.row.prog w) (ktrTop dp un gd cn cs L a ccd cl outer) (eval (.Name nr p) cenv) Q E { s with heap := h', toks := tk })
    (hnc : ∀ h' tk, Fr h₀ L h' m → News h₀ L h' news → ∀ p Q E, Q (.ref c) { s with heap := h', toks := tk } → wpAny (model PySem.Challenge.rw_jb0038_01.row.prog w) (ktrTop dp un gd cn cs L a ccd cl outer) (eval (.Name nc p) cenv) Q E { s with heap := h', toks := tk })
    (hnx : ∀ h' tk, Fr h₀ L h' m → News h₀ L h' news → ∀ p Q E, Q (.int (x0 : Nat) tx) { s with heap := h', toks := tk } → wpAny (model PySem.Challenge.rw_jb0038_01.row.prog w) (ktrTop dp un gd cn cs L a ccd cl outer) (eval (.Name nx p) cenv) Q E { s with heap := h', toks := tk })
    (hnz : ∀ h' tk, Fr h₀ L h' m → News h₀ L h' news → ∀ p Q E, Q (.int (z : Nat) tz) { s with heap := h', toks := tk } → wpAny (model PySem.Challenge.rw_jb0038_01.row.prog w) (ktrTop dp un gd cn cs L a ccd cl outer) (eval (.Name nz p) cenv) Q E { s with heap := h', toks := tk })
    (hQ : ∀ h' tk, Fr h₀ L h' m → News h₀ L h' news → Q false { s with heap := h', toks := tk })
    (hst1 : ∀ p p', starEach [.Name nc p, .Name nx p'] cenv = (false, eval (.Name nc p) cenv) :: starEach [.Name nx p'] cenv)
    (hpl : (backTo p9 (starEach [.Name nz p8] cenv)).any (·.1) = false)
    (htr : ∀ p whole, isTrue (.Name nr p) cenv whole = (do let v ← whole; standAt (Expr.Name nr p).pos; holding [v] (truthy v)))
    (htr2 : ∀ whole, isTrue (.Call (.Name (Str.ofString "isinstance") p16) [.Name nt p17, .Name (Str.ofString "bytes") p18] [] p19) cenv whole = (do let v ← whole; standAt (Expr.Call (.Name (Str.ofString "isinstance") p16) [.Name nt p17, .Name (Str.ofString "bytes") p18] [] p19).pos; holding [v] (truthy v))) :
    wpAny (model PySem.Challenge.rw_jb0038_01.row.prog w) (ktrTop dp un gd cn cs L a ccd cl outer) (isTrue (.BoolOp .Or [.Compare (.Name nt p1) [.NotEq] [.IfExp (.Name nr p2) (.Constant (.str (Str.ofString "refused")) kk p3)
      (.Call (.Name (Str.ofString "_law_octets") p4) [.Call (.Name (Str.ofString "_law_value") p5) [.Name nc p6, .Name nx p7] [] p10, .Name nz p8] [] p9) p11] p12,
      .BoolOp .And [.UnaryOp .Not (.Name nr p13) p14, .UnaryOp .Not (.Call (.Name (Str.ofString "isinstance") p16) [.Name nt p17, .Name (Str.ofString "bytes") p18] [] p19) p20] p21] p22) cenv whole) Q E s := by
  obtain ⟨hh, gs, dr, tk0, os0⟩ := s
  dsimp only at F N hnt hnr hnc hnx hnz hQ ⊢
  have Xs := X.keeps F.keep
  have Ts := T.keeps F.keep
  refine isTrue_or ?_
  refine wpAny_isTrue_Compare1 ?_
  refine hnt hh tk0 F N _ _ _ ?_
  refine IfExp_ ?_
  refine isTrue_plain ?_ (htr _ _)
  refine hnr hh tk0 F N _ _ _ ?_
  refine wpAny_truthy_bool ?_
  cases rf with
  | true =>
    rw [if_pos rfl] at htv ⊢
    obtain ⟨t, rfl⟩ := htv
    refine wpAny_Constant_str ?_
    refine PyProof.Rows.ne_str ?_
    refine wpAny_truthy_bool ?_
    have e : (Str.ofString "refused" != Str.ofString "refused") = false := by simp
    rw [e, if_neg (by decide)]
    refine isTrue_or ?_
    refine isTrue_and ?_
    refine isTrue_not ?_
    refine isTrue_plain ?_ (htr _ _)
    refine hnr hh _ F N _ _ _ ?_
    refine wpAny_truthy_bool ?_
    rw [if_neg (by decide)]
    dsimp only
    rw [if_neg (by decide)]
    exact isTrue_or_nil (hQ _ _ F N)
  | false =>
    rw [if_neg (by decide)] at htv ⊢
    obtain ⟨t, rfl⟩ := htv
    refine Call_ ?_
    refine el_global (hd := by decide) Xs Ts hck hg hk2 (octets_name w) ?_
    refine callWith_K X (octets_keep w) ?_ (by rfl) hpl
    refine args_cons ?_
    refine Call_ ?_
    refine el_global (hd := by decide) Xs Ts hck hg hk3 (value_name w) ?_
    refine callWith_K X (value_keep w) ?_ (hst1 _ _)
    refine args_cons ?_ (hst1 _ _)
    refine hnc hh tk0 F N _ _ _ ?_
    refine args_cons ?_
    refine hnx hh tk0 F N _ _ _ ?_
    refine args_nil ⟨Xs, ?_⟩
    refine value_c B F X N T hk hc hoc hi hlt hx (room hd9 (by decide)) hu9 fun t1 h1 tk1 F1 N1 => ?_
    dsimp only at F1 N1 ⊢
    refine args_cons ?_
    refine hnz h1 tk1 F1 N1 _ _ _ ?_
    refine args_nil ⟨X.keeps F1.keep, ?_⟩
    refine octets_c B F1 X N1 T hk hz1 hz4 (room hd9 (by decide)) (room hu9 (by decide)) fun t2 h2 tk2 F2 N2 => ?_
    dsimp only at F2 N2 ⊢
    refine ne_bytes ?_
    refine wpAny_truthy_bool ?_
    rw [if_neg (by simp)]
    refine isTrue_or ?_
    refine isTrue_and ?_
    refine isTrue_not ?_
    refine isTrue_plain ?_ (htr _ _)
    refine hnr h2 _ F2 N2 _ _ _ ?_
    refine wpAny_truthy_bool ?_
    rw [if_pos (by decide)]
    refine isTrue_and ?_
    refine isTrue_not ?_
    refine isTrue_plain ?_ (htr2 _)
    refine el_isbytes (hst := by rfl) (hst2 := by rfl) (b := octets ((valueN ks x0 : Nat) : Int) z) (t := t) (X.keeps F2.keep) (T.keeps F2.keep) hck hg hb hk4 hk5 (fun Q E h => hnt h2 _ F2 N2 _ _ _ h) ?_
    refine wpAny_truthy_bool ?_
    rw [if_neg (by decide)]
    rw [if_neg (by decide)]
    exact isTrue_or_nil (hQ _ _ F2 N2)
end
theorem updF_app {d : Addr} {o : Obj} {r : List (Addr × Obj)} {g : Obj → List (Addr × Obj)} : ∀ (l : List (Addr × Obj)), (∀ q ∈ l, q.1 ≠ d) → UpdF d o r g → UpdF d o (l ++ r) (fun o' => l ++ g o')
  | [], _, u => u
  | p :: l, h, u => .tail (h p (.head _)) (updF_app l (fun q hq => h q (.tail _ hq)) u)
theorem fmodN (z : Int) (k : Nat) (hk : 0 < k) : z.fmod (k : Int) = (((z % (k : Int)).toNat : Nat) : Int) := fmodN' z k hk
theorem modN_lt (z : Int) (k : Nat) (hk : 0 < k) : (z % (k : Int)).toNat < k := (Int.toNat_lt (Int.emod_nonneg z (Int.ofNat_ne_zero.mpr (Nat.ne_of_gt hk)))).mpr (Int.emod_lt_of_pos z (Int.ofNat_lt.mpr hk))
/-- what lies under the law's own shares -/
noncomputable def baseL (b : Nat) (D2 A D : Addr) (od2 oA od oF oC oS oP o : Obj) : List (Addr × Obj) :=
  [(D2, od2), (A, oA), (D, od), (b + 1 + 1 + 1 + 1, oF), (b + 1 + 1 + 1, oC), (b + 1 + 1, oS), (b + 1, oP), (156, o)]
section
variable {b : Nat} {D2 A D : Addr} {od2 oA od oF oC oS oP o : Obj}
theorem mb1 : (D2, od2) ∈ baseL b D2 A D od2 oA od oF oC oS oP o := .head _
theorem mb2 : (A, oA) ∈ baseL b D2 A D od2 oA od oF oC oS oP o := .tail _ (.head _)
theorem mb3 : (D, od) ∈ baseL b D2 A D od2 oA od oF oC oS oP o := .tail _ (.tail _ (.head _))
theorem mb4 : (b + 1 + 1 + 1 + 1, oF) ∈ baseL b D2 A D od2 oA od oF oC oS oP o := .tail _ (.tail _ (.tail _ (.head _)))
theorem mb5 : (b + 1 + 1 + 1, oC) ∈ baseL b D2 A D od2 oA od oF oC oS oP o := .tail _ (.tail _ (.tail _ (.tail _ (.head _))))
theorem mb6 : (b + 1 + 1, oS) ∈ baseL b D2 A D od2 oA od oF oC oS oP o := .tail _ (.tail _ (.tail _ (.tail _ (.tail _ (.head _)))))
theorem mb7 : (b + 1, oP) ∈ baseL b D2 A D od2 oA od oF oC oS oP o := .tail _ (.tail _ (.tail _ (.tail _ (.tail _ (.tail _ (.head _))))))
theorem mb8 : (156, o) ∈ baseL b D2 A D od2 oA od oF oC oS oP o := .tail _ (.tail _ (.tail _ (.tail _ (.tail _ (.tail _ (.tail _ (.head _)))))))
theorem above {a b : Nat} (h : a < b) (k : Nat) : b + k ≠ a := Nat.ne_of_gt (Nat.lt_of_lt_of_le h (Nat.le_add_right b k))
theorem base_upd {ps : Obj} (h1 : 156 ≠ D2) (h2 : 156 ≠ A) (h3 : 156 ≠ D) (hb : 156 < b) : UpdF 156 ps (baseL b D2 A D od2 oA od oF oC oS oP ps) (fun o => baseL b D2 A D od2 oA od oF oC oS oP o) :=
  .tail (Ne.symm h1) (.tail (Ne.symm h2) (.tail (Ne.symm h3) (.tail (above hb 4) (.tail (above hb 3) (.tail (above hb 2) (.tail (above hb 1) (.head (fun _ h => nomatch h))))))))
/-- the whole ledger in the loop -/
noncomputable def loopL (l Dp : Addr) (b : Nat) (D2 A D : Addr) (ol odp : Obj) (shs : List (Addr × Obj)) (od2 oA od oF oC oS oP o : Obj) : List (Addr × Obj) := (l, ol) :: (Dp, odp) :: (shs ++ baseL b D2 A D od2 oA od oF oC oS oP o)
variable {l Dp : Addr} {ol odp : Obj} {shs : List (Addr × Obj)}
theorem loop_map (o' : Obj) : (loopL l Dp b D2 A D ol odp shs od2 oA od oF oC oS oP o).map (·.1) = (loopL l Dp b D2 A D ol odp shs od2 oA od oF oC oS oP o').map (·.1) := by
  unfold loopL baseL; simp
theorem loop_base {q : Addr × Obj} (h : q ∈ baseL b D2 A D od2 oA od oF oC oS oP o) : q ∈ loopL l Dp b D2 A D ol odp shs od2 oA od oF oC oS oP o := .tail _ (.tail _ (List.mem_append_right _ h))
theorem loop_upd {ps : Obj} (h0 : 156 ≠ l) (hp : 156 ≠ Dp) (hs : ∀ q ∈ shs, q.1 ≠ 156) (h1 : 156 ≠ D2) (h2 : 156 ≠ A) (h3 : 156 ≠ D) (hb : 156 < b) : UpdF 156 ps (loopL l Dp b D2 A D ol odp shs od2 oA od oF oC oS oP ps) (fun o => loopL l Dp b D2 A D ol odp shs od2 oA od oF oC oS oP o) :=
  .tail (Ne.symm h0) (.tail (Ne.symm hp) (updF_app shs hs (base_upd h1 h2 h3 hb)))
end
theorem up_ne (a k : Nat) (hk : 0 < k) : a + k ≠ a := Nat.ne_of_gt (Nat.lt_add_of_pos_right hk)
theorem nP3 (b : Nat) (o : Obj) : ((b + 1 + 1 + 1 + 1, o) : Addr × Obj).1 ≠ b + 1 + 1 := up_ne (b + 1 + 1) 2 (by decide)
theorem nP2 (b : Nat) (o : Obj) : ((b + 1 + 1 + 1, o) : Addr × Obj).1 ≠ b + 1 + 1 := up_ne (b + 1 + 1) 1 (by decide)
theorem lt_ne {a b : Nat} (h : a < b) (k : Nat) : a ≠ b + k := Nat.ne_of_lt (Nat.lt_of_lt_of_le h (Nat.le_add_right b k))
theorem nP1 (b : Nat) (o t : Obj) (hb : 156 < b) : ∀ q ∈ [((b + 1, o) : Addr × Obj), (156, t)], q.1 ≠ b + 1 + 1 := by
  intro q hq
  simp only [List.mem_cons, List.not_mem_nil, or_false] at hq
  rcases hq with rfl | rfl
  · exact Ne.symm (up_ne (b + 1) 1 (by decide))
  · exact lt_ne hb 2
theorem nF {b : Nat} (hb : 156 < b) (o3 o2 o1 t : Obj) : ∀ q ∈ [((b + 1 + 1 + 1, o3) : Addr × Obj), (b + 1 + 1, o2), (b + 1, o1), (156, t)], q.1 ≠ b + 1 + 1 + 1 + 1 := by
  intro q hq
  simp only [List.mem_cons, List.not_mem_nil, or_false] at hq
  rcases hq with rfl | rfl | rfl | rfl
  · exact Ne.symm (up_ne (b + 3) 1 (by decide))
  · exact Ne.symm (up_ne (b + 2) 2 (by decide))
  · exact Ne.symm (up_ne (b + 1) 3 (by decide))
  · exact lt_ne hb 4
theorem nC {b : Nat} (hb : 156 < b) (o2 o1 t : Obj) : ∀ q ∈ [((b + 1 + 1, o2) : Addr × Obj), (b + 1, o1), (156, t)], q.1 ≠ b + 1 + 1 + 1 := by
  intro q hq
  simp only [List.mem_cons, List.not_mem_nil, or_false] at hq
  rcases hq with rfl | rfl | rfl
  · exact Ne.symm (up_ne (b + 2) 1 (by decide))
  · exact Ne.symm (up_ne (b + 1) 2 (by decide))
  · exact lt_ne hb 3
theorem range_name (w : World) : nsIn (hd.heap_39 w.params) mainGlobals (Str.ofString "range") = some none := by kernel_rfl
theorem list_name (w : World) : nsIn (hd.heap_39 w.params) mainGlobals (Str.ofString "list") = some none := by kernel_rfl
section
variable {w : World} {p : Program} {loose : List Str} {mean : ExcName → Option Value} {mg mb : Str → Option Value} {A : Around} {s : Shared} {Q E : Value → Shared → Prop} {cenv : Env} {h₀ : Heap} {L : Addr} {m : Str → Option Value} {news : List (Addr × Obj)}
/-- `range(e)` -/
theorem el_range {e : Expr} {n : Int} {p3 p4 : Pos} (X : (hd.heap_39 w.params).In s.heap) (T : Top p loose mean mg mb s.heap)
    (hk : cenv.scope.kind = .function) (hg : cenv.globals = mainGlobals) (hb : cenv.builtins = builtinsNs) (hl : cenv.kindOf (Str.ofString "range") = some .globalImplicit)
    (F : Fr h₀ L s.heap m) (N : News h₀ L s.heap news)
    (he : ∀ Q E, (∀ t tk, Q (.int n t) { s with toks := tk }) → wpAny (model PySem.Challenge.rw_jb0038_01.row.prog w) A (eval e cenv) Q E s)
    (h : ∀ r t u v h' tk, IsRange h' r 0 n 1 t u v → Fr h₀ L h' m → News h₀ L h' news → Q (.ref r) { s with heap := h', toks := tk }) (hst : starEach [e] cenv = (false, eval e cenv) :: starEach [] cenv) :
    wpAny (model PySem.Challenge.rw_jb0038_01.row.prog w) A (eval (.Call (.Name (Str.ofString "range") p3) [e] [] p4) cenv) Q E s := by
  refine Call_ ?_
  refine Name_function_global hk hl (loadGlobal_builtin (by rw [hg]; exact T.g) (mg_none_of X T.g (range_name w)) (by rw [hb]; exact T.b) (v := .type "range") ((T.builtins _ (by decide)).trans (by boot_by_name)) ?_)
  refine PyProof.Rows.callWith_type1 ?_ hst
  refine args_cons ?_ hst
  refine he _ _ fun t tk => ?_
  refine args_nil ?_
  refine call_range_1 ?_
  exact h _ _ _ _ _ _ (IsRange.new ..) (F.push _) (News.pushKeep N _)
/-- `list(range(256))` -/
theorem el_free {k : Nat} {p1 p2 p3 p4 p5 : Pos} (hh : A.handled = none) (X : (hd.heap_39 w.params).In s.heap) (T : Top p loose mean mg mb s.heap)
    (hk : cenv.scope.kind = .function) (hg : cenv.globals = mainGlobals) (hb : cenv.builtins = builtinsNs) (hl : cenv.kindOf (Str.ofString "range") = some .globalImplicit) (hl2 : cenv.kindOf (Str.ofString "list") = some .globalImplicit)
    (F : Fr h₀ L s.heap m) (N : News h₀ L s.heap news)
    (h : ∀ D od h' tk vs, Fr h₀ L h' m → News h₀ L h' ((D, od) :: news) → (∀ p ∈ news, p.1 ≠ D) → IsListObj od vs → od.dict = none → IntsAre vs ((List.range 256).map fun j => ((j : Nat) : Int)) → Q (.ref D) { s with heap := h', toks := tk }) :
    wpAny (model PySem.Challenge.rw_jb0038_01.row.prog w) A (eval (.Call (.Name (Str.ofString "list") p1) [.Call (.Name (Str.ofString "range") p2) [.Constant (.int 256) k p3] [] p4] [] p5) cenv) Q E s := by
  refine Call_ ?_
  refine Name_function_global hk hl2 (loadGlobal_builtin (by rw [hg]; exact T.g) (mg_none_of X T.g (list_name w)) (by rw [hb]; exact T.b) (v := .type "list") ((T.builtins _ (by decide)).trans (by boot_by_name)) ?_)
  refine PyProof.Rows.callWith_type1 ?_
  refine args_cons ?_
  refine el_range (hst := by rfl) X T hk hg hb hl F N (fun Q E h => wpAny_Constant_int (h _ _)) fun r t u v h' tk hr F' N' => ?_
  refine args_nil ?_
  exact list_range_led (n := 256) F' N' hh hr (by decide) fun D od h2 tk2 vs F2 N2 hD hod hdn hi => h D od h2 tk2 vs F2 N2 hD hod hdn hi
end
theorem ite_yes {c : Prop} [Decidable c] {a b : Prop} (hc : c) (h : if c then a else b) : a := by rwa [if_pos hc] at h
theorem ite_no {c : Prop} [Decidable c] {a b : Prop} (hc : ¬ c) (h : if c then a else b) : b := by rwa [if_neg hc] at h
end Mine
end

-- part JW
section
open PySem PySem.W PySem.Calls PyProof.Rows
namespace Mine
set_option maxRecDepth 100000
set_option maxHeartbeats 8000000
set_option linter.unusedVariables false

theorem law_holds : PySem.Challenge.rw_jb0038_01.Holds := by
  w_on
  o_law
  o_head (kHook hd.heap_39 [2, 3, 30, 31, 49, 55, 56, 72, 73, 78, 94, 95, 136, 137, 139, 140, 144, 145, 146, 151, 154, 160, 161, 167, 168, 174, 175, 181, 182, 188, 189, 195, 196] (fun _ => by kernel_rfl))
  (case hw => w_witness2)
  k_fill
  intro w s₀ s₁ mg mb G Y fa o pm cd doc dV kV ho hd' hcd hD hmg hg args vals as hpre hlay hrd hwl hlo
  have KX := kIn_of Y
  have X := (Ground.X G).1
  have V := (Ground.X G).2
  refine Ground.open G ?_
  intro T B D TE TW
  try (refine guard_noD D (by decide +kernel) ?_; clear D)
  have hTab : TabsAt [(160, 156)] s₁.heap := by
    have h1 := codeHd_of KX (ip_hd w) (by decide)
    have h2 := (tab_of (x := Str.ofString "_interpolate") (c := 160) (P := 156) T KX (by rfl) (by kernel_rfl)).2
    intro q hq
    rcases List.mem_cons.mp hq with rfl | hq
    · exact ⟨h1, h2⟩
    · cases hq
  obtain ⟨_, _, M⟩ := bmod_of_top T
  have TA := at_of_top T
  clear hmg
  have hGens : AllBare s₁.gens := .of_eq hg
  wrow_args hpre hlay hrd hwl hlo
  all_goals (
    first | refine callC_kw (enter_call ?_) | refine enter_call ?_ | refine callC_kw (enter_callW ?_) | refine enter_callW ?_ | w_how
    w_top on
    have K0 := below_caller (Top.heap T)
    w_call any ho hd' hcd hD T F
    clear hd' TA
    k_drop
    skip)
  rename Fr _ _ _ _ => lF
  rename News _ _ _ _ => lN
  rename CellsAre _ _ _ => hCells
  clear hCells
  rename_i ns hs1 hs2 hLay hs4 hs5 q8 q7 la vs q4 hList ra w1 r0 hInts hr hcN hcT h₁ tk₁ oF oC oS oP dF dC dS dP
  have F0 := ghost_fr hTab lF
  have N0 := ghost_news hTab lF lN
  have T0 := ghost_top hTab T
  have X0 := ghost_K hTab KX (by kernel_rfl)
  have B0 := ghost_below hTab
  have hl0 := ghost_list hTab hList
  have eF : oF.data = .cell none := dF
  have eC : oC.data = .cell none := dC
  have eS : oS.data = .cell none := dS
  have eP : oP.data = .cell (some (.ref la)) := dP
  have hn63 : ns.length ≤ 63 := by omega
  simp only [List.cons_append, List.nil_append, tabNews, List.map_cons, List.map_nil] at N0
  have hlay : PyData.layable0 (.list (ns.map .int)) = true := hLay
  have L0 : 156 < s₁.heap.objs.size := Heap.lt_size (hTab (160, 156) (.head _)).2
  have hfin : ∀ {L' : Addr} {m' : Str → Option Value} {ps : Array Value} (s' : Shared), Fr (ghostOf s₁.heap [(160, 156)]) L' s'.heap m' → s'.heap.get? 156 = some (tabObj ps) → s'.os = s₁.os → AllBare s'.gens → GoodWG PySem.Challenge.rw_jb0038_01.row.claim (classAt s₀.heap) (ExcName.means s₀.heap) [ofPy (PyData.list (ns.map .int))] s₁ (.ok (.ret (.bool true))) s' := fun s' F hP ho hg => law_end hTab F hP ho hg
  clear dF dC dS dP lF lN hr r0 ra w1 hs1 hs2 hs4 hs5 hcN hcT hLay hList
  clear G Y X V
  have hn62 : ns.length < 2 ^ 62 := Nat.lt_of_le_of_lt hn63 (by decide)
  clear ho hcd hg KX B TE TW M K0 hD
  try dsimp only
  refine cutQE (by passes_own) (fun _ => by passes_own) fun Q0 E0 hP0 hP1 hQ0 => ?_
  replace hfin : ∀ {L' : Addr} {m' : Str → Option Value} {ps : Array Value} (s' : Shared), Fr (ghostOf s₁.heap [(160, 156)]) L' s'.heap m' → s'.heap.get? 156 = some (tabObj ps) → s'.os = s₁.os → AllBare s'.gens → Q0 (.ret (.bool true)) s' := fun s' F hP ho hg => hQ0 (.bool true) s' (hfin s' F hP ho hg)
  clear hQ0 hTab T
  generalize hG : ghostOf s₁.heap [(160, 156)] = G0 at *
  generalize hb : s₁.heap.objs.size = b at *
  clear hG hb
  have TR := topRead_of T0
  -- count
  refine exec_cut fun Q1 hQ1 => ?_
  refine wpAny_Assign_Name ?_
  refine wpAny_BinOp ?_
  refine wpAny_BinOp ?_
  refine el_number (hst := by rfl) (la := la) (vs := vs) (ns := ns) (k := 0) B0 F0 X0 N0 T0 rfl hl0 hInts hn62 (by decide) (by decide) (by decide) rfl rfl rfl
    (fun Q E h => nameX_C N0 (c := b + 1) rfl (.tail _ (.tail _ (.tail _ (.head _)))) eP h) (fun Q E h => wpAny_Constant_int (h _ _)) fun ta h3 tk3 F3 N3 => ?_
  clear F0 N0
  try dsimp only
  refine wpAny_Constant_int ?_
  refine PyProof.Rows.add_int ?_
  refine wpAny_Constant_int ?_
  refine mod_int' (by decide) ?_
  rw [show (8 : Int) = ((8 : Nat) : Int) from rfl, fmodN _ 8 (by decide)]
  have hcnt := modN_lt (numAt ns 0 + 2) 8 (by decide)
  generalize ((numAt ns 0 + 2) % ((8 : Nat) : Int)).toNat = cnt at hcnt ⊢
  try dsimp only
  refine storeX_L F3 N3 fun h4 F4 N4 => hQ1 _ ?_
  clear F3 N3 hQ1
  try dsimp only
  -- size
  refine exec_cut fun Q1 hQ1 => ?_
  refine wpAny_Assign_Name ?_
  refine wpAny_BinOp ?_
  refine wpAny_Constant_int ?_
  refine wpAny_BinOp ?_
  refine el_number (hst := by rfl) (la := la) (vs := vs) (ns := ns) (k := 1) B0 F4 X0 N4 T0 rfl hl0 hInts hn62 (by decide) (by decide) (by decide) rfl rfl rfl
    (fun Q E h => nameX_C N4 (c := b + 1) rfl (.tail _ (.tail _ (.tail _ (.head _)))) eP h) (fun Q E h => wpAny_Constant_int (h _ _)) fun ta h3 tk3 F3 N3 => ?_
  clear F4 N4
  try dsimp only
  refine wpAny_Constant_int ?_
  refine mod_int' (by decide) ?_
  rw [show (3 : Int) = ((3 : Nat) : Int) from rfl, fmodN _ 3 (by decide)]
  have hsz := modN_lt (numAt ns 1) 3 (by decide)
  generalize (numAt ns 1 % ((3 : Nat) : Int)).toNat = sz at hsz ⊢
  try dsimp only
  refine PyProof.Rows.add_int ?_
  obtain ⟨z, hz1, hz3, ez⟩ : ∃ z : Nat, 1 ≤ z ∧ z ≤ 3 ∧ (1 : Int) + ((sz : Nat) : Int) = ((z : Nat) : Int) := ⟨1 + sz, Nat.le_add_right 1 sz, Nat.add_comm 1 sz ▸ hsz, (Int.natCast_add 1 sz).symm⟩
  rw [ez]
  clear ez hsz
  have hz4 : z ≤ 4 := Nat.le_succ_of_le hz3
  refine storeX_C F3 N3 (c := b + 1 + 1) (o := oS) rfl (.tail (nP3 b oF) (.tail (nP2 b oC) (.head (nP1 b oP _ L0)))) eS fun h4 oS1 F4 N4 eS1 => hQ1 _ ?_
  obtain ⟨tz, eS1⟩ : ∃ tz, oS1.data = Data.cell (some (Value.int ((z : Nat) : Int) tz)) := ⟨_, eS1⟩
  clear F3 N3 hQ1
  try dsimp only
  -- curve
  refine exec_cut fun Q1 hQ1 => ?_
  refine wpAny_Assign_Name ?_
  refine comp_range (hs := by intro _; rfl) (hcell := by decide) (hkind := by rfl) (hnames := by decide) (hx := by rfl) (os := s₁.os) (h₀ := G0) (fun i ys nx gx dx => gx = s₁.gens ∧ dx = s₁.drawn ∧ nx = [(b + 1 + 1 + 1 + 1, oF), (b + 1 + 1 + 1, oC), (b + 1 + 1, oS1), (b + 1, oP), (156, tabObj #[])] ∧ IntsAre ys ((List.range i).map fun j => ((laneAt ns z j : Nat) : Int))) F4 rfl rfl ?_
  refine el_range (hst := by rfl) (X0.keeps F4.keep) (T0.keeps F4.keep) rfl rfl rfl rfl F4 N4 (fun Q E h => nameX_L F4 rfl (h _ _)) fun r tr ur vr h5 tk5 hr F5 N5 => ?_
  clear F4 N4
  refine ⟨_, _, _, _, _, cnt, rfl, hr, le_of_lt_le hcnt (by decide), rfl, F5, N5, ⟨rfl, rfl, rfl, .nil⟩, ?_, ?_⟩
  · clear F5 N5 hr hQ1
    rintro I C D E' i v ys nx oc od oI' t mc ⟨hi, tv, rfl⟩ ⟨hg, hd1, rfl, hys⟩ hos F2 N2 hap hns hm
    refine wpAny_BinOp ?_
    refine wpAny_BinOp ?_
    refine el_number (hst := by rfl) (la := la) (vs := vs) (ns := ns) (k := 2 + ((i : Nat) : Int)) B0 F2 X0 N2 T0 rfl hl0 hInts hn62 (nn_add (by decide)) (by decide) (by decide) rfl rfl rfl ?_ ?_ ?_
    · intro Q E h
      exact wpAny_Name (wpAny_loadName_cell rfl rfl (c := b + 1) rfl ⟨oP, (N2 _ (.tail _ (.tail _ (.tail _ (.tail _ (.tail _ (.tail _ (.head _)))))))).1, eP⟩ h)
    · intro Q E h
      refine wpAny_BinOp ?_
      refine wpAny_Constant_int ?_
      refine wpAny_Name (wpAny_loadName_local rfl rfl hns hm ?_)
      exact PyProof.Rows.add_int (h _ _)
    · intro t3 h3 tk3 F3 N3
      obtain ⟨tsp, hsp⟩ := intIn_at (spread_name w)
      refine el_global (hd := by decide) (X0.keeps F3.keep) (T0.keeps F3.keep) rfl rfl rfl hsp ?_
      refine PyProof.Rows.mul_int ?_ (IntMulOk.of_le (numAt_bits hlay (nn_add (by decide)) (by omega)) spread_bits (by decide))
      refine wpAny_BinOp ?_
      refine wpAny_Constant_int ?_
      refine wpAny_Name (wpAny_loadName_cell rfl rfl (c := b + 1 + 1) rfl ⟨oS1, (N3 _ (.tail _ (.tail _ (.tail _ (.tail _ (.tail _ (.head _))))))).1, eS1⟩ ?_)
      refine pow_int_small (Int.natCast_nonneg z) (by omega) (by decide) ?_
      refine mod_int' ?_ ?_
      · exact Int.ne_of_gt (Int.pow_pos (by decide))
      · rw [lane_eq]
        refine ⟨hos, _, F3, N3, hap, (fun b hb hne => absurd (List.mem_singleton.mp hb) hne), hg, hd1, rfl, ?_⟩
        rw [List.range_succ, List.map_append]
        exact intsAre_snoc hys
  clear F5 N5 hr
  rintro D s2 ys nx od hosA ⟨hgA, hdA, rfl, hys⟩ F2 N2 hod hodn hD
  replace F2 : Fr G0 b s2.heap _ := F2
  replace N2 : News G0 b s2.heap _ := N2
  refine storeX_C F2 N2 (c := b + 1 + 1 + 1) (o := oC) rfl (.tail (Ne.symm (hD (b + 1 + 1 + 1, oC) (.tail _ (.head _)))) (.tail (Ne.symm (nF L0 oC oS1 oP (tabObj #[]) (b + 1 + 1 + 1, oC) (.head _))) (.head (nC L0 _ _ _)))) eC fun h4 oC1 F4 N4 eC1 => hQ1 _ ?_
  clear F2 N2 hQ1
  try dsimp only
  -- free
  refine exec_cut fun Q1 hQ1 => ?_
  refine wpAny_Assign_Name ?_
  refine el_free rfl (X0.keeps F4.keep) (T0.keeps F4.keep) rfl rfl rfl rfl rfl F4 N4 fun A oA h5 tk5 fr F5 N5 hA hoA hoAn hfr => ?_
  clear F4 N4
  try dsimp only
  refine storeX_C F5 N5 (c := b + 1 + 1 + 1 + 1) (o := oF) rfl (.tail (Ne.symm (hA (b + 1 + 1 + 1 + 1, oF) (.tail _ (.head _)))) (.tail (Ne.symm (hD (b + 1 + 1 + 1 + 1, oF) (.head _))) (.head (nF L0 _ _ _ _)))) eF fun h6 oF1 F6 N6 eF1 => hQ1 _ ?_
  clear F5 N5 hQ1
  try dsimp only
  -- places
  refine exec_cut fun Q1 hQ1 => ?_
  refine comp_range_use (hs := by intro _; rfl) (hcell := by decide) (hkind := by rfl) (hnames := by decide) (hx := by rfl) (os := s₁.os) (h₀ := G0) (fun i ys nx gx dx => gx = s₁.gens ∧ dx = s₁.drawn ∧ (∃ oA' vA, nx = [(A, oA'), (D, od), (b + 1 + 1 + 1 + 1, oF1), (b + 1 + 1 + 1, oC1), (b + 1 + 1, oS1), (b + 1, oP), (156, tabObj #[])] ∧ IsListObj oA' vA ∧ oA'.dict = none ∧ IntsAre vA ((freeN ns i).map fun j => ((j : Nat) : Int))) ∧ IntsAre ys ((List.range i).map fun j => ((placeN ns j : Nat) : Int))) F6 rfl rfl rfl rfl rfl ?_
  refine el_range (hst := by rfl) (X0.keeps F6.keep) (T0.keeps F6.keep) rfl rfl rfl rfl F6 N6 (fun Q E h => nameX_L F6 rfl (h _ _)) fun r tr ur vr h5 tk5 hr F5 N5 => ?_
  clear F6 N6
  refine ⟨_, _, _, _, _, cnt, rfl, hr, le_of_lt_le hcnt (by decide), hosA, F5, N5, ⟨hgA, hdA, ⟨oA, fr, rfl, hoA, hoAn, hfr⟩, .nil⟩, ?_, ?_⟩
  · clear F5 N5 hr hQ1
    rintro I C2 D2 E' i v ys nx oc od2 oI' t mc ⟨hi, tv, rfl⟩ ⟨hg, hd1, ⟨oA', vA, rfl, hoA', hoAn', hvA⟩, hys⟩ hos F2 N2 hap hns hm
    have hNA := (N2 (A, oA') (.tail _ (.tail _ (.tail _ (.head _))))).1
    have hlenA : vA.length = (freeN ns i).length := by rw [hvA.length, List.length_map]
    have hi7 : i ≤ 7 := Nat.le_of_lt_succ (Nat.lt_trans hi hcnt)
    have hlen256 := freeN_len ns i (Nat.le_trans hi7 (by decide))
    have hlo : 0 < (freeN ns i).length := by rw [hlen256]; exact Nat.sub_pos_of_lt (Nat.lt_of_le_of_lt hi7 (by decide))
    have hhi : vA.length ≤ 4096 := by rw [hlenA, hlen256]; exact Nat.le_trans (Nat.sub_le _ _) (by decide)
    have hpick := pickN_lt (ns := ns) (i := i) hlo
    refine MethodCall_ ?_
    refine wpAny_Name (wpAny_loadName_cell rfl rfl (c := b + 1 + 1 + 1 + 1) rfl ⟨oF1, (N2 (b + 1 + 1 + 1 + 1, oF1) (.tail _ (.tail _ (.tail _ (.tail _ (.tail _ (.head _))))))).1, eF1⟩ ?_)
    refine getMethod_builtin (hoA'.at hNA).typeIs PySem.F.plainAttrs_list PySem.F.slot_list_pop PySem.F.type_list_pop (fun b e => by cases e; exact ⟨oA', hNA, hoAn'⟩) ?_
    try dsimp only
    refine callWith_method1 ?_
    refine args_cons ?_
    refine wpAny_BinOp ?_
    refine el_number (hst := by rfl) (la := la) (vs := vs) (ns := ns) (k := 10 + ((i : Nat) : Int)) B0 F2 X0 N2 T0 rfl hl0 hInts hn62 (nn_add (by decide)) (by decide) (by decide) rfl rfl rfl ?_ ?_ ?_
    · intro Q E h
      exact wpAny_Name (wpAny_loadName_cell rfl rfl (c := b + 1) rfl ⟨oP, (N2 (b + 1, oP) (.tail _ (.tail _ (.tail _ (.tail _ (.tail _ (.tail _ (.tail _ (.tail _ (.head _)))))))))).1, eP⟩ h)
    · intro Q E h
      refine wpAny_BinOp ?_
      refine wpAny_Constant_int ?_
      refine wpAny_Name (wpAny_loadName_local rfl rfl hns hm ?_)
      exact PyProof.Rows.add_int (h _ _)
    · intro t3 h3 tk3 F3 N3
      have hNA3 := N3 (A, oA') (.tail _ (.tail _ (.tail _ (.head _))))
      refine el_lenlist (hst := by rfl) (l := A) (items := vA.toArray) (X0.keeps F3.keep) (T0.keeps F3.keep) rfl rfl rfl rfl ?_ (hoA'.at hNA3.1) (by rw [List.size_toArray]; exact hhi) fun t4 tk4 => ?_
      · intro Q E h
        exact wpAny_Name (wpAny_loadName_cell rfl rfl (c := b + 1 + 1 + 1 + 1) rfl ⟨oF1, (N3 (b + 1 + 1 + 1 + 1, oF1) (.tail _ (.tail _ (.tail _ (.tail _ (.tail _ (.head _))))))).1, eF1⟩ h)
      · rw [show vA.toArray.size = (freeN ns i).length by rw [List.size_toArray, hlenA]]
        refine mod_int' (Int.natCast_ne_zero.mpr (Nat.ne_of_gt hlo)) ?_
        rw [pick_eq ns i hlo]
        refine args_nil ?_
        obtain ⟨tpl, hpl⟩ := hvA.get (pickN ns i) ((placeN ns i : Nat) : Int) (by rw [List.getElem?_map, placeN_get (Nat.lt_of_le_of_lt hi7 (by decide))]; rfl)
        refine list_pop_at (vs := vA) (k := pickN ns i) (x := .int ((placeN ns i : Nat) : Int) tpl) hNA3.1 hoA' hpl hhi fun h5 oA2 hsb hoA2 hlA2 hdA2 => ?_
        have hapA := hap (A, oA') (.head _)
        refine ⟨hos, _, F3.change hsb hNA3.2.1 hNA3.2.2, News.setIn (own := [(C2, oc), (D2, od2), (I, oI')]) N3 (fun q hq => ?_) (apart_map (by rfl) hA) hsb hoA2, fun q hq => ?_, fun b hb hne => absurd (List.mem_singleton.mp hb) hne, hg, hd1, ⟨oA2, _, rfl, hlA2, hdA2.trans hoAn', ?_⟩, ?_⟩
        · rcases List.mem_cons.mp hq with rfl | hq
          · exact Ne.symm hapA.1
          · rcases List.mem_cons.mp hq with rfl | hq
            · exact Ne.symm hapA.2.1
            · rcases List.mem_cons.mp hq with rfl | hq
              · exact Ne.symm hapA.2.2
              · cases hq
        · rcases List.mem_cons.mp hq with rfl | hq
          · exact hapA
          · exact hap q (.tail _ hq)
        · have := intsAre_erase (pickN ns i) hvA
          rw [map_erase] at this
          exact this
        · rw [List.range_succ, List.map_append]
          exact intsAre_snoc hys
  clear F5 N5 hr
  rintro D2 s3 ys2 nx od2 hosB ⟨hgB, hdB, ⟨oA', vA, rfl, hoA', hoAn', hvA⟩, hys2⟩ F2 N2 hod2 hodn2 hD2
  refine hQ1 _ ?_
  clear hQ1
  replace F2 : Fr G0 b s3.heap _ := F2
  replace N2 : News G0 b s3.heap (baseL b D2 A D od2 oA' od oF1 oC1 oS1 oP (tabObj #[])) := N2
  have hks : IntsAre ys ((ksN ns z cnt).map fun k : Nat => (k : Int)) := by unfold ksN; rw [List.map_map]; exact hys
  have hpl : IntsAre ys2 ((plcN ns cnt).map fun k : Nat => (k : Int)) := by unfold plcN; rw [List.map_map]; exact hys2
  have hy2len : ys2.length = cnt := by rw [hpl.length, List.length_map, plcN_len]
  have hkl := ksN_lt ns hz3 cnt
  have hc256 : cnt ≤ 256 := le_of_lt_le hcnt (by decide)
  have hplt := plcN_lt ns (c := cnt) hc256
  have n156 : 156 ≠ D2 ∧ 156 ≠ A ∧ 156 ≠ D := ⟨hD2 (156, tabObj #[]) (.tail _ (.tail _ (.tail _ (.tail _ (.tail _ (.tail _ (.head _))))))), hA (156, tabObj #[]) (.tail _ (.tail _ (.tail _ (.tail _ (.tail _ (.head _)))))), hD (156, tabObj #[]) (.tail _ (.tail _ (.tail _ (.tail _ (.head _)))))⟩
  clear hys hys2 hD2 hA hD eF eC eS hoA hoAn hfr hodn hodn2
  -- points
  refine exec_cut fun Q1 hQ1 => ?_
  refine comp_list_use (hs := by intro _; rfl) (hcell := by decide) (hkind := by rfl) (hnames := by decide) (hx := by rfl) (os := s₁.os) (h₀ := G0) (fun i ys nx gx dx => gx = s₁.gens ∧ dx = s₁.drawn ∧ ∃ shs : List (Addr × Obj), nx = shs ++ (baseL b D2 A D od2 oA' od oF1 oC1 oS1 oP (tabObj #[])) ∧ ys.length = i ∧
    (∀ q ∈ shs, ∀ r ∈ (baseL b D2 A D od2 oA' od oF1 oC1 oS1 oP (tabObj #[])), r.1 ≠ q.1) ∧ ∀ (j : Nat) v q, ys[j]? = some v → (ptsOf (ksN ns z cnt) z (plcN ns cnt))[j]? = some q → ShareAt shs v q) F2 rfl rfl rfl rfl rfl ?_
  refine nameX_L F2 (v := .ref D2) rfl ?_
  refine ⟨D2, ys2.toArray, _, rfl, hod2.at (N2 _ mb1).1, by rw [List.size_toArray, hy2len]; exact le_of_lt_le hcnt (by decide), hosB, F2, N2, ⟨hgB, hdB, [], rfl, rfl, (fun q hq => absurd hq List.not_mem_nil), fun j v q h => by simp at h⟩, ?_, ?_⟩
  · clear F2 N2 hQ1
    rintro I hID C3 D3 E' i v ysp nx oc od3 oI' t mc hv ⟨hg, hd1, shs, rfl, hlen, hap2, hsh⟩ hos F3 N3 hap hns hm
    have hv2 : ys2[i]? = some v := by simpa using hv
    have hic : i < cnt := hy2len ▸ (List.getElem?_eq_some_iff.mp hv2).1
    obtain ⟨tpl, hpl2⟩ := hpl.get i ((placeN ns i : Nat) : Int) (by rw [List.getElem?_map, plcN_at hic]; rfl)
    rw [hpl2] at hv2
    cases hv2
    have bm : ∀ {q : Addr × Obj}, q ∈ (baseL b D2 A D od2 oA' od oF1 oC1 oS1 oP (tabObj #[])) → q ∈ ((C3, oc) :: (D3, od3) :: (I, oI') :: (shs ++ (baseL b D2 A D od2 oA' od oF1 oC1 oS1 oP (tabObj #[])))) := fun hq => .tail _ (.tail _ (.tail _ (List.mem_append_right _ hq)))
    refine el_point (hst1 := by rfl) (c := D) (oc := od) (vs := ys) (ks := ksN ns z cnt) (x0 := placeN ns i) (z := z) (tp := tpl) (tz := tz) B0 F3 X0 N3 T0 rfl (bm mb3) hod hks hkl (placeN_lt (Nat.lt_of_lt_of_le hic hc256)) hz1 hz4 (by decide) (by decide) rfl rfl rfl rfl rfl ?_ ?_ ?_ ?_
    · intro h' tk N' p Q E h
      refine wpAny_Name (wpAny_loadName_local rfl rfl (hns.at' fun o e => ?_) hm h)
      have e1 := Option.some.inj (e.symm.trans (N3 (C3, oc) (.head _)).1)
      rw [e1]
      exact (N' (C3, oc) (.head _)).1
    · intro h' tk N' p Q E h
      exact wpAny_Name (wpAny_loadName_cell rfl rfl (c := b + 1 + 1 + 1) rfl ⟨oC1, (N' (b + 1 + 1 + 1, oC1) (bm mb5)).1, eC1⟩ h)
    · intro h' tk N' p Q E h
      exact wpAny_Name (wpAny_loadName_cell rfl rfl (c := b + 1 + 1) rfl ⟨oS1, (N' (b + 1 + 1, oS1) (bm mb6)).1, eS1⟩ h)
    · intro x dd t1 h4 tk4 F4 N4 hne
      generalize hob : shareObj dd (.int ((placeN ns i : Nat) : Int) tpl) (.bytes (octets ((valueN (ksN ns z cnt) (placeN ns i) : Nat) : Int) z) t1) 0 = ob at N4
      refine ⟨hos, (x, ob) :: (shs ++ (baseL b D2 A D od2 oA' od oF1 oC1 oS1 oP (tabObj #[]))), F4, fun q hq => N4 q ?_, fun q hq => ?_, fun b hb hbI o ho => ?_, hg, hd1, (x, ob) :: shs, rfl, by rw [List.length_append, hlen]; rfl, fun q hq r hr => ?_, hob ▸ shares_snoc hlen (pts_at hic) hsh⟩
      · rcases List.mem_cons.mp hq with rfl | hq
        · exact .tail _ (.head _)
        · rcases List.mem_cons.mp hq with rfl | hq
          · exact .tail _ (.tail _ (.head _))
          · rcases List.mem_cons.mp hq with rfl | hq
            · exact .tail _ (.tail _ (.tail _ (.head _)))
            · rcases List.mem_cons.mp hq with rfl | hq
              · exact .head _
              · exact .tail _ (.tail _ (.tail _ (.tail _ hq)))
      · rcases List.mem_cons.mp hq with rfl | hq
        · exact ⟨Ne.symm (hne (C3, oc) (.head _)), Ne.symm (hne (D3, od3) (.tail _ (.head _))), Ne.symm (hne (I, oI') (.tail _ (.tail _ (.head _))))⟩
        · exact hap q hq
      · have hbD : b = D2 := by
          rcases List.mem_cons.mp hb with rfl | hb
          · exact absurd rfl hbI
          · exact List.mem_singleton.mp hb
        subst hbD
        rw [Option.some.inj (ho.symm.trans (N3 (b, od2) (bm mb1)).1)]
        exact (N4 (b, od2) (.tail _ (bm mb1))).1
      · rcases List.mem_cons.mp hq with rfl | hq
        · exact hne r (bm hr)
        · exact hap2 q hq r hr
  clear F2 N2
  rintro Dp s4 ysp nx odp hosC ⟨hgC, hdC, shs, rfl, hlen, hap2, hsh⟩ F2 N2 hodp hodpn hDp
  refine hQ1 _ ?_
  clear hQ1
  replace F2 : Fr G0 b s4.heap _ := F2
  replace N2 : News G0 b s4.heap _ := N2
  have hlenp : ysp.length = cnt := by rw [hlen, List.size_toArray, hy2len]
  -- spoil
  refine exec_cut fun Q1 hQ1 => ?_
  refine wpAny_Assign_Name ?_
  refine wpAny_BinOp ?_
  refine el_number (hst := by rfl) (la := la) (vs := vs) (ns := ns) (k := 21) B0 F2 X0 N2 T0 rfl hl0 hInts hn62 (by decide) (by decide) (by decide) rfl rfl rfl
    (fun Q E h => nameX_C N2 (c := b + 1) rfl (.tail _ (List.mem_append_right _ mb7)) eP h) (fun Q E h => wpAny_Constant_int (h _ _)) fun ta h3 tk3 F3 N3 => ?_
  clear F2 N2
  try dsimp only
  refine wpAny_Constant_int ?_
  refine mod_int' (by decide) ?_
  rw [show (5 : Int) = ((5 : Nat) : Int) from rfl, fmodN _ 5 (by decide)]
  generalize (numAt ns 21 % ((5 : Nat) : Int)).toNat = sp
  try dsimp only
  refine storeX_L F3 N3 fun h4 lF lN => hQ1 _ ?_
  clear F3 N3 hQ1
  try dsimp only
  obtain ⟨m1, em1, lF⟩ := fr_map lF
  obtain ⟨tcn, mcount⟩ : ∃ t, m1 (Str.ofString "count") = some (.int ((cnt : Nat) : Int) t) := ⟨_, by rw [em1]; rfl⟩
  obtain ⟨tsp, mspoil⟩ : ∃ t, m1 (Str.ofString "spoil") = some (.int ((sp : Nat) : Int) t) := ⟨_, by rw [em1]; rfl⟩
  have mpoints : m1 (Str.ofString "points") = some (.ref Dp) := by rw [em1]; rfl
  have mplaces : m1 (Str.ofString "places") = some (.ref D2) := by rw [em1]; rfl
  clear em1
  have ptsOk : ∀ q ∈ ptsOf (ksN ns z cnt) z (plcN ns cnt), q.1 < 256 ∧ q.2.size ≤ 4 := by
    intro q hq
    obtain ⟨b, hb, rfl⟩ := List.mem_map.mp hq
    refine ⟨hplt b hb, ?_⟩
    show (octets _ z).size ≤ 4
    rw [octets_size]; exact Nat.le_trans hz3 (by decide)
  have ptsLen : (ptsOf (ksN ns z cnt) z (plcN ns cnt)).length = cnt := by unfold ptsOf; rw [List.length_map, plcN_len]
  have hlenp' : ysp.length = (ptsOf (ksN ns z cnt) z (plcN ns cnt)).length := hlenp.trans ptsLen.symm
  have pts8 : (ptsOf (ksN ns z cnt) z (plcN ns cnt)).length ≤ 8 := by rw [ptsLen]; exact Nat.le_of_lt hcnt
  have hz16 : z ≤ 4 := Nat.le_trans hz3 (by decide)
  -- the first spoiling
  refine exec_cut fun Q1 hQ1 => ?_
  refine wpAny_mono (?_ : wpAny _ _ _ (fun (f : Flow) (s' : Shared) => f = .next ∧ PtsSt s₁ G0 b m1 (baseL b D2 A D od2 oA' od oF1 oC1 oS1 oP (tabObj #[])) Dp (fun pts => if 0 < cnt ∧ sp = 1 then ∀ x, ipN pts x = none else pts = ptsOf (ksN ns z cnt) z (plcN ns cnt)) s') _ _) (fun f s5 hst => ?_) (fun _ _ e => e)
  · clear hQ1
    refine wpAny_If ?_
    refine el_test (k := 1) (cnt := cnt) (sp := sp) (fun tk p Q E h => nameX_L lF mcount h) (fun tk p Q E h => nameX_L lF mspoil h) fun tk => ?_
    by_cases h1 : 0 < cnt ∧ sp = 1
    · rw [decide_eq_true h1, if_pos rfl]
      have hbm : ∀ {q : Addr × Obj}, q ∈ (baseL b D2 A D od2 oA' od oF1 oC1 oS1 oP (tabObj #[])) → q ∈ ((Dp, odp) :: (shs ++ (baseL b D2 A D od2 oA' od oF1 oC1 oS1 oP (tabObj #[])))) := fun hq => .tail _ (List.mem_append_right _ hq)
      obtain ⟨tpl, hp0⟩ := hpl.get 0 ((placeN ns 0 : Nat) : Int) (by rw [List.getElem?_map, plcN_at h1.1]; rfl)
      obtain ⟨vp0, hvp0⟩ : ∃ v, ysp[0]? = some v := ⟨ysp[0]'(hlenp ▸ h1.1), List.getElem?_eq_getElem _⟩
      obtain ⟨x0, ddx, tx0, tx1, rfl, hx0⟩ := hsh 0 vp0 _ hvp0 (pts_at h1.1)
      refine exec_cut fun Q2 hQ2 => ?_
      refine wpAny_Expr ?_
      refine el_append (hst1 := by rfl) (hst2 := by rfl) (hst3 := by rfl) (hpl := by rfl) (hmc := by rfl) (P := fun b => b.size ≤ 4) (l := D2) (items := ys2.toArray) (k0 := placeN ns 0) (t0 := tpl) B0 lF X0 lN T0 rfl (.head hDp) hodp hodpn (hlenp ▸ le_of_lt_le hcnt (by decide)) (fun h' F' N' => hod2.at (N' (D2, od2) (hbm mb1)).1) (by simpa using hp0) (by decide) (by decide) rfl rfl rfl
        (fun h' tk F' N' p Q E h => nameX_L F' mpoints h) (fun h' tk F' N' p Q E h => nameX_L F' mplaces h) ?_ ?_
      · intro h' tk F' N' Q E hq
        refine el_alt (hst0 := by rfl) (hst1 := by rfl) (hst2 := by rfl) (hpl2 := by rfl) (htr := by intro _; rfl) (la := la) (vs := vs) (ns := ns) (z := z) (items := ysp.toArray) (x0 := x0) B0 F' X0 N' T0 rfl hl0 hInts hn62 hz1 hz4 (by decide) (by decide) rfl rfl rfl rfl
          (fun h' tk F' N' p Q E h => nameX_C N' (c := b + 1) rfl (hbm mb7) eP h) (fun h' tk F' N' p Q E h => nameX_C N' (c := b + 1 + 1) rfl (hbm mb6) eS1 (h _ _)) (fun h' tk F' N' p Q E h => nameX_L F' mpoints h)
          (fun h' F' N' => hodp.at (N' (Dp, odp) (.head _)).1) (by simpa using hvp0) (.tail _ (List.mem_append_left _ hx0)) fun b t h2 tk' hb F2 N2 => hq b t h2 tk' ?_ F2 N2
        rcases hb with rfl | rfl
        · rw [octets_size_int]; exact hz16
        · dsimp only
          rw [octets_size_int]; exact hz16
      · intro x dd b t1 od' h' tk hb F' N' hne hl' hd'
        refine hQ2 _ (wpAny_execs_nil ⟨rfl, ptsSt_more (odp := odp) hosC hgC hdC F' N' hne hl' hd' hlenp' hap2 hDp hsh pts8 ptsOk (placeN_lt (by decide)) hb ?_⟩)
        rw [if_pos h1]
        exact fun x => ipN_twice b x ⟨_, List.mem_of_getElem? (pts_at h1.1), rfl⟩
    · rw [decide_eq_false h1, if_neg (by decide)]
      refine wpAny_execs_nil ⟨rfl, shs, odp, ysp, _, hosC, hgC, hdC, lF, lN, hodp, hodpn, hlenp', hap2, hDp, hsh, Nat.le_succ_of_le pts8, ptsOk, ?_⟩
      try dsimp only
      rw [if_neg h1]
  obtain ⟨rfl, hst⟩ := hst
  clear lF lN hsh hap2 hDp hodpn hodp hlenp hlen hlenp' hosA hgA hdA hosB hgB hdB hosC hgC hdC
  obtain ⟨shs, odp, ysp, pts, H⟩ := hst
  refine hQ1 _ ?_
  clear hQ1
  -- the second
  refine exec_cut fun Q1 hQ1 => ?_
  refine wpAny_mono (?_ : wpAny _ _ _ (fun (f : Flow) (s' : Shared) => f = .next ∧ PtsSt s₁ G0 b m1 (baseL b D2 A D od2 oA' od oF1 oC1 oS1 oP (tabObj #[])) Dp (fun pts => if cnt = 0 ∨ sp = 1 ∨ sp = 2 then ∀ x, ipN pts x = none else pts = ptsOf (ksN ns z cnt) z (plcN ns cnt)) s') _ _) (fun f s5 hst => ?_) (fun _ _ e => e)
  · clear hQ1
    refine wpAny_If ?_
    refine el_test (k := 2) (cnt := cnt) (sp := sp) (fun tk p Q E h => nameX_L H.F mcount h) (fun tk p Q E h => nameX_L H.F mspoil h) fun tk => ?_
    by_cases h1 : 0 < cnt ∧ sp = 2
    · have hok : pts = ptsOf (ksN ns z cnt) z (plcN ns cnt) := ite_no (c := 0 < cnt ∧ sp = 1) (fun q => absurd (q.2.symm.trans h1.2) (by decide)) H.ok
      have pts8' : pts.length ≤ 8 := hok ▸ pts8
      rw [decide_eq_true h1, if_pos rfl]
      have hbm : ∀ {q : Addr × Obj}, q ∈ (baseL b D2 A D od2 oA' od oF1 oC1 oS1 oP (tabObj #[])) → q ∈ ((Dp, odp) :: (shs ++ (baseL b D2 A D od2 oA' od oF1 oC1 oS1 oP (tabObj #[])))) := fun hq => .tail _ (List.mem_append_right _ hq)
      obtain ⟨f0, hf0⟩ : ∃ f0, (freeN ns cnt)[0]? = some f0 := ⟨(freeN ns cnt)[0]'(by rw [freeN_len ns cnt hc256]; exact Nat.sub_pos_of_lt (Nat.lt_trans hcnt (by decide))), List.getElem?_eq_getElem _⟩
      have hflt := freeN_lt ns cnt _ (List.mem_of_getElem? hf0)
      obtain ⟨tpl, hp0⟩ := hvA.get 0 ((f0 : Nat) : Int) (by rw [List.getElem?_map, hf0]; rfl)
      refine exec_cut fun Q2 hQ2 => ?_
      refine wpAny_Expr ?_
      refine el_append (hst1 := by rfl) (hst2 := by rfl) (hst3 := by rfl) (hpl := by rfl) (hmc := by rfl) (P := fun b => b.size = z + 1) (l := A) (items := vA.toArray) (k0 := f0) (t0 := tpl) B0 H.F X0 H.N T0 rfl (.head H.apD) H.ol H.od (H.len ▸ Nat.le_trans pts8' (by decide)) (fun h' F' N' => hoA'.at (N' (A, oA') (hbm mb2)).1) (by simpa using hp0) (by decide) (by decide) rfl rfl rfl
        (fun h' tk F' N' p Q E h => nameX_L F' mpoints h) (fun h' tk F' N' p Q E h => nameX_C N' (c := b + 1 + 1 + 1 + 1) rfl (hbm mb4) eF1 h) ?_ ?_
      · intro h' tk F' N' Q E hq
        refine el_oct (hst0 := by rfl) (hst1 := by rfl) (hpl := by rfl) (k := 22) (la := la) (vs := vs) (ns := ns) (z := z + 1) B0 F' X0 N' T0 rfl hl0 hInts hn62 (Nat.le_add_left 1 z) (Nat.succ_le_succ hz3) (by decide) (by decide) rfl rfl rfl rfl
          (fun h' tk F' N' p Q E h => nameX_C N' (c := b + 1) rfl (hbm mb7) eP h) (fun h' tk F' N' Q E h => ?_) fun t h2 tk' F2 N2 => hq _ t h2 tk' (octets_size_int _ _) F2 N2
        refine wpAny_BinOp ?_
        refine nameX_C N' (c := b + 1 + 1) rfl (hbm mb6) eS1 ?_
        refine wpAny_Constant_int ?_
        exact PyProof.Rows.add_int (h _ _)
      · intro x dd b t1 od' h' tk hb F' N' hne hl' hd'
        refine hQ2 _ (wpAny_execs_nil ⟨rfl, ptsSt_more (odp := odp) H.os H.gens H.drawn F' N' hne hl' hd' H.len H.ap H.apD H.sh pts8' H.sz hflt (hb ▸ Nat.le_trans (Nat.succ_le_succ hz3) (by decide)) ?_⟩)
        rw [if_pos (.inr (.inr h1.2)), hok]
        refine fun x => ipN_long x (fun e => ?_) (by rw [hb]; exact Nat.succ_ne_self z)
        have := plcN_len ns cnt
        rw [e] at this
        exact absurd h1.1 (this ▸ Nat.lt_irrefl 0)
    · rw [decide_eq_false h1, if_neg (by decide)]
      refine wpAny_execs_nil ⟨rfl, shs, odp, ysp, _, H.os, H.gens, H.drawn, H.F, H.N, H.ol, H.od, H.len, H.ap, H.apD, H.sh, H.l9, H.sz, ?_⟩
      have hok := H.ok
      try dsimp only at hok
      try dsimp only
      by_cases h3 : 0 < cnt ∧ sp = 1
      · rw [if_pos h3] at hok
        rw [if_pos (.inr (.inl h3.2))]
        exact hok
      · rw [if_neg h3] at hok
        by_cases h4 : cnt = 0
        · rw [if_pos (.inl h4)]
          rw [hok]
          subst h4
          exact fun x => ipN_nil x
        · have hp := Nat.pos_of_ne_zero h4
          rw [if_neg (fun q => q.elim h4 fun q => q.elim (fun q => h3 ⟨hp, q⟩) fun q => h1 ⟨hp, q⟩)]
          exact hok
  obtain ⟨rfl, hst⟩ := hst
  clear H pts8 ptsOk ptsLen
  obtain ⟨shs, odp, ysp, pts, H⟩ := hst
  refine hQ1 _ ?_
  clear hQ1
  -- refused
  refine exec_cut fun Q1 hQ1 => ?_
  refine wpAny_Assign_Name ?_
  refine el_refused (hst1 := by rfl) (hst2 := by rfl) (cnt := cnt) (sp := sp) H.F H.N (fun tk p Q E h => nameX_L H.F mcount h) (fun tk p Q E h => nameX_L H.F mspoil h) fun h5 tk5 F5 N5 => ?_
  have hexp : ∀ x, x < 256 → ipN pts x = if decide (cnt = 0 ∨ sp = 1 ∨ sp = 2) then none else some (octets ((valueN (ksN ns z cnt) x : Nat) : Int) z) := by
    intro x hx
    by_cases hc : cnt = 0 ∨ sp = 1 ∨ sp = 2
    · rw [decide_eq_true hc, if_pos rfl]
      exact ite_yes hc H.ok x
    · rw [decide_eq_false hc, if_neg (by decide), (ite_no hc H.ok : pts = ptsOf (ksN ns z cnt) z (plcN ns cnt))]
      refine ipN_ptsOf hz3 (fun e => hc (.inl ?_)) (plcN_nodup ns hc256) hplt hx hkl (by rw [ksN_len, plcN_len])
      have := plcN_len ns cnt
      rw [e] at this
      exact this.symm
  generalize decide (cnt = 0 ∨ sp = 1 ∨ sp = 2) = rf at hexp ⊢
  refine storeX_L F5 N5 fun h6 F6 N6 => hQ1 _ ?_
  clear F5 N5 hQ1
  try dsimp only
  obtain ⟨m2, em2, F6⟩ := fr_map F6
  have rrefused : m2 (Str.ofString "refused") = some (.bool rf) := by rw [em2]; rfl
  have rpoints : m2 (Str.ofString "points") = some (.ref Dp) := by rw [em2]; exact (if_neg (by decide)).trans mpoints
  have rplaces : m2 (Str.ofString "places") = some (.ref D2) := by rw [em2]; exact (if_neg (by decide)).trans mplaces
  clear em2 mcount mspoil mpoints mplaces
  have hbm : ∀ {q : Addr × Obj}, q ∈ (baseL b D2 A D od2 oA' od oF1 oC1 oS1 oP (tabObj #[])) → q ∈ ((Dp, odp) :: (shs ++ (baseL b D2 A D od2 oA' od oF1 oC1 oS1 oP (tabObj #[])))) := fun hq => .tail _ (List.mem_append_right _ hq)
  -- the loop
  refine exec_cut fun Q1 hQ1 => ?_
  refine forE (hs := by intro _; rfl) (h₀ := G0) rfl ?_ (hE := hP0)
  refine el_xs (hst0 := by rfl) (hst1 := by rfl) (hst2 := by rfl) (hst3 := by rfl) (la := la) (vs := vs) (ns := ns) (od2 := od2) (D2 := D2) (ys2 := ys2) (plc := plcN ns cnt) B0 F6 X0 N6 T0 rfl hl0 hInts hn62 (by decide) (by decide) rfl rfl rfl (hbm mb1) hod2 hpl hplt (by rw [plcN_len]; exact le_of_lt_le hcnt (by decide))
    (fun h' tk F' N' p Q E h => nameX_C N' (c := b + 1) rfl (hbm mb7) eP h) (fun h' tk F' N' p Q E h => nameX_L F' rplaces h) ?_
  clear F6 N6
  intro l ol vsx xsx h7 tk7 F7 N7 hll hol hxi hxl
  have n156l : 156 ≠ l := hll (156, tabObj #[]) (hbm mb8)
  have n156p : 156 ≠ Dp := H.apD (156, tabObj #[]) (List.mem_append_right _ mb8)
  have n156s : ∀ q ∈ shs, q.1 ≠ 156 := fun q hq => Ne.symm (H.ap q hq (156, tabObj #[]) mb8)
  clear hbm hll hpl hplt hvA hoA' hoAn' hod2
  refine ⟨l, vsx, (loopL l Dp b D2 A D ol odp shs od2 oA' od oF1 oC1 oS1 oP (tabObj #[])).map (·.1), fun i m nx gx dx => AllBare gx ∧ m (Str.ofString "points") = some (.ref Dp) ∧ m (Str.ofString "refused") = some (.bool rf) ∧ ∃ ps' : Array Value, TriplesOk ps'.toList ∧ nx = (loopL l Dp b D2 A D ol odp shs od2 oA' od oF1 oC1 oS1 oP (tabObj ps')), rfl, rfl, ?_, ⟨m2, _, F7, N7, H.gens ▸ hGens, rpoints, rrefused, #[], trivial, rfl⟩, ?_, ?_⟩
  · rintro i m nx gx dx ⟨_, _, _, ps', _, rfl⟩
    exact ⟨loop_map _, fun h _ N => hol.at (N (l, ol) (.head _)).1⟩
  · clear F7 N7 hQ1
    rintro i v m₁ nx I oI s2 hv ⟨hgb, mp, mr, ps8, ht8, rfl⟩ hos hne F8 N8
    replace hos := hos.trans H.os
    obtain ⟨x0, tx, rfl, hx256⟩ : ∃ x0 tx, v = .int ((x0 : Nat) : Int) tx ∧ x0 < 256 := by
      have hil : i < xsx.length := by
        have := (List.getElem?_eq_some_iff.mp hv).1
        rwa [hxi.length, List.length_map] at this
      obtain ⟨tx, hxv⟩ := hxi.get i ((xsx[i] : Nat) : Int) (by rw [List.getElem?_map, List.getElem?_eq_getElem hil]; rfl)
      rw [hv] at hxv
      exact ⟨_, tx, Option.some.inj hxv, hxl _ (List.getElem_mem hil)⟩
    clear hv hxi hxl
    refine storeX_L F8 N8 fun h9 F9 N9 => ?_
    clear F8 N8
    try dsimp only
    obtain ⟨m3, em3, F9⟩ := fr_map F9
    have m3p : m3 (Str.ofString "points") = some (.ref Dp) := by rw [em3]; exact (if_neg (by decide)).trans mp
    have m3r : m3 (Str.ofString "refused") = some (.bool rf) := by rw [em3]; exact (if_neg (by decide)).trans mr
    have m3x : m3 (Str.ofString "x") = some (.int ((x0 : Nat) : Int) tx) := by rw [em3]; rfl
    clear em3 mp mr
    have hI156 : I ≠ 156 := Ne.symm (hne (156, tabObj ps8) (loop_base mb8))
    refine exec_cut fun Q1 hQ1 => ?_
    refine wpAny_mono (?_ : wpAny _ _ _ (fun (f : Flow) (s' : Shared) => f = .next ∧ s'.os = s₁.os ∧ AllBare s'.gens ∧ ∃ (m4 : Str → Option Value) (ps9 : Array Value) (tv : Value), Fr G0 b s'.heap m4 ∧ News G0 b s'.heap ((I, oI) :: (loopL l Dp b D2 A D ol odp shs od2 oA' od oF1 oC1 oS1 oP (tabObj ps9))) ∧ TriplesOk ps9.toList ∧
      m4 (Str.ofString "points") = some (.ref Dp) ∧ m4 (Str.ofString "refused") = some (.bool rf) ∧ m4 (Str.ofString "x") = some (.int ((x0 : Nat) : Int) tx) ∧ m4 (Str.ofString "told") = some tv ∧ (if rf then ∃ t, tv = .str (Str.ofString "refused") t else ∃ t, tv = .bytes (octets ((valueN (ksN ns z cnt) x0 : Nat) : Int) z) t)) _ _) (fun f s' hst => ?_) (fun _ _ e => e)
    · clear hQ1
      refine wpAny_Try_except ?_
      refine wpAny_execs_cons ?_
      refine wpAny_Assign_Name ?_
      refine Call_ ?_
      refine el_global (hd := by decide) (X0.keeps F9.keep) (T0.keeps F9.keep) rfl rfl rfl (interp_name w) ?_
      refine callWith_K X0 (interp_keep w) ?_
      refine args_cons ?_
      refine nameX_L F9 m3p ?_
      refine args_cons ?_
      refine nameX_L F9 m3x ?_
      refine args_nil ⟨X0.keeps F9.keep, ?_⟩
      have hex9 := hexp x0 hx256
      refine interp_c (g := fun o => (I, oI) :: (loopL l Dp b D2 A D ol odp shs od2 oA' od oF1 oC1 oS1 oP (o))) (ps := ps8) (c := Dp) (oc := odp) (vs := ysp) (pts := pts) (x0 := x0) B0 F9 X0 N9 T0 rfl (fun ps => .tail hI156 (loop_upd n156l n156p n156s n156.1 n156.2.1 n156.2.2 L0)) (fun o o' => congrArg (List.cons I) (loop_map o')) ht8 (fun o => .tail _ (.tail _ (.head _))) H.ol H.len ?_ (Nat.le_trans H.l9 (by decide)) H.sz hx256 (by decide) (by decide) ?_ ?_
      · intro o j v q hv hq
        obtain ⟨y, dd, t0, t1, e, hm⟩ := H.sh j v q hv hq
        exact ⟨y, dd, t0, t1, e, .tail _ (.tail _ (.tail _ (List.mem_append_left _ hm)))⟩
      · intro hn e t vs' g1 h' gs tk ps' hgb' ht9 F10 hup hR
        obtain ⟨nid, bm, hq, iid, FB⟩ := exc_in w
        refine caught_X (hk := by rfl) (hx := by rfl) (hd := by decide) (KF := hd.heap_39 w.params) (C := 31) B0 F10 hup hR X0 TR (exc_name w) hq FB.hasBase (fun h12 news₂ F12 _ _ N12 => ?_) (hE := hP1 _)
        try dsimp only
        refine wpAny_execs_cons ?_
        refine wpAny_Assign_Name ?_
        refine wpAny_Constant_str ?_
        refine storeX_L F12 N12 fun h13 F13 N13 => ?_
        try dsimp only
        refine wpAny_execs_nil ⟨rfl, hos, hgb' hgb, _, ps', _, F13, N13, ht9, (if_neg (by decide)).trans m3p, (if_neg (by decide)).trans m3r, (if_neg (by decide)).trans m3x, rfl, ?_⟩
        rw [hn] at hex9
        cases rf with
        | true => exact ⟨_, rfl⟩
        | false => cases hex9
      · intro bs hbs t h' gs dr tk ps' hgb' ht9 F10 N10
        dsimp only at F10 N10 ⊢
        refine storeX_L F10 N10 fun h11 F11 N11 => ?_
        try dsimp only
        refine wpAny_execs_nil ?_
        refine wpAny_execs_nil ⟨rfl, hos, hgb' hgb, _, ps', .bytes bs t, F11, N11, ht9, (if_neg (by decide)).trans m3p, (if_neg (by decide)).trans m3r, (if_neg (by decide)).trans m3x, rfl, ?_⟩
        rw [hbs] at hex9
        cases rf with
        | true => cases hex9
        | false =>
          rw [if_neg (by decide)] at hex9 ⊢
          cases hex9
          exact ⟨t, rfl⟩
    · obtain ⟨rfl, hos2, hgb2, m4, ps9, tv, F10, N10, ht9, m4p, m4r, m4x, m4t, htv⟩ := hst
      clear F9 N9
      refine hQ1 _ ?_
      clear hQ1
      refine exec_cut fun Q1 hQ1 => ?_
      refine wpAny_If ?_
      have hb9 : ∀ {q : Addr × Obj}, q ∈ (baseL b D2 A D od2 oA' od oF1 oC1 oS1 oP (tabObj ps9)) → q ∈ ((I, oI) :: (loopL l Dp b D2 A D ol odp shs od2 oA' od oF1 oC1 oS1 oP (tabObj ps9))) := fun hq => .tail _ (loop_base hq)
      refine el_verdict (hst1 := by intro _ _; rfl) (hpl := by rfl) (htr := by intro _ _; rfl) (htr2 := by intro _; rfl) (c := D) (oc := od) (vs := ys) (ks := ksN ns z cnt) (x0 := x0) (z := z) (tx := tx) (tz := tz) (rf := rf) (tv := tv) B0 F10 X0 N10 T0 rfl (hb9 mb3) hod hks hkl hx256 hz1 hz4 (by decide) (by decide) rfl rfl rfl rfl rfl rfl rfl htv
        (fun h' tk F' N' p Q E h => nameX_L F' m4t h) (fun h' tk F' N' p Q E h => nameX_L F' m4r h)
        (fun h' tk F' N' p Q E h => nameX_C N' (c := b + 1 + 1 + 1) rfl (hb9 mb5) eC1 h)
        (fun h' tk F' N' p Q E h => nameX_L F' m4x h)
        (fun h' tk F' N' p Q E h => nameX_C N' (c := b + 1 + 1) rfl (hb9 mb6) eS1 h) fun h' tk F' N' => ?_
      rw [if_neg (by decide)]
      refine wpAny_execs_nil (hQ1 _ ?_)
      exact wpAny_execs_nil (ForPost.next (hos2.trans H.os.symm) F' N' ⟨hgb2, m4p, m4r, ps9, ht9, rfl⟩)
  · rintro m nx s2 ⟨hgb, _, _, ps', _, rfl⟩ hos F N
    refine hQ1 _ ?_
    refine wpAny_execs_cons ?_
    refine wpAny_Return_some ?_
    refine wpAny_Constant_bool ?_
    exact hfin s2 F (N (156, tabObj ps') (loop_base mb8)).1 (hos.trans H.os) hgb
end Mine
end

theorem PySem.Challenge.cw_jb0038_01_holds : PySem.Challenge.rw_jb0038_01.Holds := by
  exact Mine.law_holds
