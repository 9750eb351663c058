import PyProof.Rows.All
import Wide.All
import OpenK.AllK
import Wide.FinOn
import PySem.Challenge.RW_tl0048_01
set_option Elab.async false
set_option maxRecDepth 100000
set_option linter.unusedVariables false
set_option rowWalk.seconds 0
set_option compiler.extract_closed false
open PySem PySem.W PySem.Calls PySem.Spec PyProof.Rows
namespace Mine
/-- a row of the program's text, by its place; a row of a class -/
noncomputable def topAt (P : Program) (i : Nat) : Stmt := P.main.body.getD i (.Pass ⟨0, 0, 0, 0⟩)
noncomputable def inAt : Stmt → Nat → Stmt
  | .ClassDef _ _ _ b _ _ _ _ _ _ _, i => b.getD i (.Pass ⟨0, 0, 0, 0⟩)
  | _, _ => .Pass ⟨0, 0, 0, 0⟩
/-- a function's parameters, rows and scope, read off the row's program -/
noncomputable def IsFnX (st : Stmt) (a : Arguments) (b : List Stmt) (c : Scope) : Prop := ∃ n d r tp ts bd p, st = .FunctionDef n a b d r tp c ts bd p
set_option maxHeartbeats 0 in
/-- the written part of the top's heap: what the law can reach -/
noncomputable def KK : Params → Frag := by
  refine' (?kf : ∀ (a0F : Arguments) (b0F : List Stmt) (c0F : Scope) (a1F : Arguments) (b1F : List Stmt) (c1F : Scope) (a2F : Arguments) (b2F : List Stmt) (c2F : Scope) (a3F : Arguments) (b3F : List Stmt) (c3F : Scope) (a4F : Arguments) (b4F : List Stmt) (c4F : Scope) (a5F : Arguments) (b5F : List Stmt) (c5F : Scope) (a6F : Arguments) (b6F : List Stmt) (c6F : Scope) (a7F : Arguments) (b7F : List Stmt) (c7F : Scope) (a8F : Arguments) (b8F : List Stmt) (c8F : Scope) (a9F : Arguments) (b9F : List Stmt) (c9F : Scope) (a10F : Arguments) (b10F : List Stmt) (c10F : Scope) (a11F : Arguments) (b11F : List Stmt) (c11F : Scope) (a12F : Arguments) (b12F : List Stmt) (c12F : Scope) (a13F : Arguments) (b13F : List Stmt) (c13F : Scope) (a14F : Arguments) (b14F : List Stmt) (c14F : Scope) (a15F : Arguments) (b15F : List Stmt) (c15F : Scope) (a16F : Arguments) (b16F : List Stmt) (c16F : Scope) (a17F : Arguments) (b17F : List Stmt) (c17F : Scope) (a18F : Arguments) (b18F : List Stmt) (c18F : Scope) (a19F : Arguments) (b19F : List Stmt) (c19F : Scope) (a20F : Arguments) (b20F : List Stmt) (c20F : Scope) (a21F : Arguments) (b21F : List Stmt) (c21F : Scope) (a22F : Arguments) (b22F : List Stmt) (c22F : Scope) (a23F : Arguments) (b23F : List Stmt) (c23F : Scope) (a24F : Arguments) (b24F : List Stmt) (c24F : Scope) (a25F : Arguments) (b25F : List Stmt) (c25F : Scope) (a26F : Arguments) (b26F : List Stmt) (c26F : Scope) (a27F : Arguments) (b27F : List Stmt) (c27F : Scope) (a28F : Arguments) (b28F : List Stmt) (c28F : Scope) (a29F : Arguments) (b29F : List Stmt) (c29F : Scope) (a30F : Arguments) (b30F : List Stmt) (c30F : Scope) (a31F : Arguments) (b31F : List Stmt) (c31F : Scope), IsFnX (topAt PySem.Challenge.pw_tl0048_01 1) a0F b0F c0F → IsFnX (inAt (topAt PySem.Challenge.pw_tl0048_01 5) 0) a1F b1F c1F → IsFnX (inAt (topAt PySem.Challenge.pw_tl0048_01 5) 1) a2F b2F c2F → IsFnX (inAt (topAt PySem.Challenge.pw_tl0048_01 5) 2) a3F b3F c3F → IsFnX (inAt (topAt PySem.Challenge.pw_tl0048_01 5) 3) a4F b4F c4F → IsFnX (inAt (topAt PySem.Challenge.pw_tl0048_01 5) 4) a5F b5F c5F → IsFnX (inAt (topAt PySem.Challenge.pw_tl0048_01 5) 5) a6F b6F c6F → IsFnX (inAt (topAt PySem.Challenge.pw_tl0048_01 5) 6) a7F b7F c7F → IsFnX (inAt (topAt PySem.Challenge.pw_tl0048_01 5) 7) a8F b8F c8F → IsFnX (inAt (topAt PySem.Challenge.pw_tl0048_01 5) 8) a9F b9F c9F → IsFnX (inAt (topAt PySem.Challenge.pw_tl0048_01 5) 9) a10F b10F c10F → IsFnX (inAt (topAt PySem.Challenge.pw_tl0048_01 5) 10) a11F b11F c11F → IsFnX (inAt (topAt PySem.Challenge.pw_tl0048_01 5) 11) a12F b12F c12F → IsFnX (inAt (topAt PySem.Challenge.pw_tl0048_01 5) 12) a13F b13F c13F → IsFnX (inAt (topAt PySem.Challenge.pw_tl0048_01 5) 13) a14F b14F c14F → IsFnX (inAt (topAt PySem.Challenge.pw_tl0048_01 5) 14) a15F b15F c15F → IsFnX (inAt (topAt PySem.Challenge.pw_tl0048_01 5) 15) a16F b16F c16F → IsFnX (inAt (topAt PySem.Challenge.pw_tl0048_01 5) 16) a17F b17F c17F → IsFnX (topAt PySem.Challenge.pw_tl0048_01 10) a18F b18F c18F → IsFnX (inAt (topAt PySem.Challenge.pw_tl0048_01 12) 1) a19F b19F c19F → IsFnX (inAt (topAt PySem.Challenge.pw_tl0048_01 12) 2) a20F b20F c20F → IsFnX (inAt (topAt PySem.Challenge.pw_tl0048_01 12) 3) a21F b21F c21F → IsFnX (inAt (topAt PySem.Challenge.pw_tl0048_01 12) 4) a22F b22F c22F → IsFnX (inAt (topAt PySem.Challenge.pw_tl0048_01 12) 5) a23F b23F c23F → IsFnX (inAt (topAt PySem.Challenge.pw_tl0048_01 12) 6) a24F b24F c24F → IsFnX (inAt (topAt PySem.Challenge.pw_tl0048_01 12) 7) a25F b25F c25F → IsFnX (topAt PySem.Challenge.pw_tl0048_01 14) a26F b26F c26F → IsFnX (topAt PySem.Challenge.pw_tl0048_01 15) a27F b27F c27F → IsFnX (topAt PySem.Challenge.pw_tl0048_01 16) a28F b28F c28F → IsFnX (topAt PySem.Challenge.pw_tl0048_01 17) a29F b29F c29F → IsFnX (topAt PySem.Challenge.pw_tl0048_01 18) a30F b30F c30F → IsFnX (topAt PySem.Challenge.pw_tl0048_01 19) a31F b31F c31F → Params → Frag) _ _ _ _ _ _ _ _ _ _ _ _ _ _ _ _ _ _ _ _ _ _ _ _ _ _ _ _ _ _ _ _ _ _ _ _ _ _ _ _ _ _ _ _ _ _ _ _ _ _ _ _ _ _ _ _ _ _ _ _ _ _ _ _ _ _ _ _ _ _ _ _ _ _ _ _ _ _ _ _ _ _ _ _ _ _ _ _ _ _ _ _ _ _ _ _ ⟨_, _, _, _, _, _, _, rfl⟩ ⟨_, _, _, _, _, _, _, rfl⟩ ⟨_, _, _, _, _, _, _, rfl⟩ ⟨_, _, _, _, _, _, _, rfl⟩ ⟨_, _, _, _, _, _, _, rfl⟩ ⟨_, _, _, _, _, _, _, rfl⟩ ⟨_, _, _, _, _, _, _, rfl⟩ ⟨_, _, _, _, _, _, _, rfl⟩ ⟨_, _, _, _, _, _, _, rfl⟩ ⟨_, _, _, _, _, _, _, rfl⟩ ⟨_, _, _, _, _, _, _, rfl⟩ ⟨_, _, _, _, _, _, _, rfl⟩ ⟨_, _, _, _, _, _, _, rfl⟩ ⟨_, _, _, _, _, _, _, rfl⟩ ⟨_, _, _, _, _, _, _, rfl⟩ ⟨_, _, _, _, _, _, _, rfl⟩ ⟨_, _, _, _, _, _, _, rfl⟩ ⟨_, _, _, _, _, _, _, rfl⟩ ⟨_, _, _, _, _, _, _, rfl⟩ ⟨_, _, _, _, _, _, _, rfl⟩ ⟨_, _, _, _, _, _, _, rfl⟩ ⟨_, _, _, _, _, _, _, rfl⟩ ⟨_, _, _, _, _, _, _, rfl⟩ ⟨_, _, _, _, _, _, _, rfl⟩ ⟨_, _, _, _, _, _, _, rfl⟩ ⟨_, _, _, _, _, _, _, rfl⟩ ⟨_, _, _, _, _, _, _, rfl⟩ ⟨_, _, _, _, _, _, _, rfl⟩ ⟨_, _, _, _, _, _, _, rfl⟩ ⟨_, _, _, _, _, _, _, rfl⟩ ⟨_, _, _, _, _, _, _, rfl⟩ ⟨_, _, _, _, _, _, _, rfl⟩
  exact fun a0F b0F c0F a1F b1F c1F a2F b2F c2F a3F b3F c3F a4F b4F c4F a5F b5F c5F a6F b6F c6F a7F b7F c7F a8F b8F c8F a9F b9F c9F a10F b10F c10F a11F b11F c11F a12F b12F c12F a13F b13F c13F a14F b14F c14F a15F b15F c15F a16F b16F c16F a17F b17F c17F a18F b18F c18F a19F b19F c19F a20F b20F c20F a21F b21F c21F a22F b22F c22F a23F b23F c23F a24F b24F c24F a25F b25F c25F a26F b26F c26F a27F b27F c27F a28F b28F c28F a29F b29F c29F a30F b30F c30F a31F b31F c31F _ _ _ _ _ _ _ _ _ _ _ _ _ _ _ _ _ _ _ _ _ _ _ _ _ _ _ _ _ _ _ _ => fun P => (nat_lit 2, { cls := Value.none, data := Data.dict #[{ hash := PyData.keyHash P (Str.ofString "imp\x6frt.loaded._sre"), key := Value.str (Str.ofString "imp\x6frt.loaded._sre") 183, val := Value.bool true }, { hash := PyData.keyHash P (Str.ofString "class._frozen_imp\x6frtlib.BuiltinImporter"), key := Value.str (Str.ofString "class._frozen_imp\x6frtlib.BuiltinImporter") 185, val := Value.ref 14 }, { hash := PyData.keyHash P (Str.ofString "watched.imp\x6frt"), key := Value.str (Str.ofString "watched.imp\x6frt") 206, val := Value.ref 18 }, { hash := PyData.keyHash P (Str.ofString "class._frozen_imp\x6frtlib.ModuleSpec"), key := Value.str (Str.ofString "class._frozen_imp\x6frtlib.ModuleSpec") 216, val := Value.ref 22 }, { hash := PyData.keyHash P (Str.ofString "sys.modules.booked-epoch"), key := Value.str (Str.ofString "sys.modules.booked-epoch") 245, val := Value.int 3 0 }, { hash := PyData.keyHash P (Str.ofString "imp\x6frt.later-laid._sre"), key := Value.str (Str.ofString "imp\x6frt.later-laid._sre") 270, val := Value.bool true }, { hash := PyData.keyHash P (Str.ofString "watched.library"), key := Value.str (Str.ofString "watched.library") 272, val := Value.ref 27 }, { hash := PyData.keyHash P (Str.ofString "watched.library-objects"), key := Value.str (Str.ofString "watched.library-objects") 0, val := Value.str (Str.ofString "\x0c") 0 }, { hash := PyData.keyHash P (Str.ofString "watched.library-deep._sre"), key := Value.str (Str.ofString "watched.library-deep._sre") 273, val := Value.str (Str.ofString "\x04\x00\x00\x0b\x04\x00\x00\x0b\x04\x00\x00\x03\x04\x00\x00\x0b\x08\x04dict\x02") 0 }, { hash := PyData.keyHash P (Str.ofString "type.__subclasses__.Exception.0"), key := Value.str (Str.ofString "type.__subclasses__.Exception.0") 526, val := Value.int 185 0 }, { hash := PyData.keyHash P (Str.ofString "type.__subclasses__.Exception.n"), key := Value.str (Str.ofString "type.__subclasses__.Exception.n") 527, val := Value.int 1 0 }] 11 }) :: (nat_lit 3, { cls := Value.type "dict", data := Data.dict #[{ hash := PyData.keyHash P (Str.ofString "__name__"), key := Value.str (Str.ofString "__name__") 165, val := Value.str (Str.ofString "law_tl0048_01") 678 }, { hash := PyData.keyHash P (Str.ofString "__doc__"), key := Value.str (Str.ofString "__doc__") 166, val := Value.none }, { hash := PyData.keyHash P (Str.ofString "__package__"), key := Value.str (Str.ofString "__package__") 167, val := Value.none }, { hash := PyData.keyHash P (Str.ofString "__loader__"), key := Value.str (Str.ofString "__loader__") 168, val := Value.builtin "__main__.__loader__#opaque" }, { hash := PyData.keyHash P (Str.ofString "__spec__"), key := Value.str (Str.ofString "__spec__") 169, val := Value.none }, { hash := PyData.keyHash P (Str.ofString "__annotations__"), key := Value.str (Str.ofString "__annotations__") 170, val := Value.ref 6 }, { hash := PyData.keyHash P (Str.ofString "__builtins__"), key := Value.str (Str.ofString "__builtins__") 171, val := Value.ref 4 }, { hash := PyData.keyHash P (Str.ofString "__file__"), key := Value.str (Str.ofString "__file__") 173, val := Value.str (Str.ofString "/claim/cut.py") 172 }, { hash := PyData.keyHash P (Str.ofString "__cached__"), key := Value.str (Str.ofString "__cached__") 174, val := Value.none }, { hash := PyData.keyHash P (Str.ofString "_sre"), key := Value.str (Str.ofString "_sre") 275, val := Value.ref 12 }, { hash := PyData.keyHash P (Str.ofString "_wall"), key := Value.str (Str.ofString "_wall") 288, val := Value.ref 38 }, { hash := PyData.keyHash P (Str.ofString "_name_disallowed_re"), key := Value.str (Str.ofString "_name_disallowed_re") 316, val := Value.ref 43 }, { hash := PyData.keyHash P (Str.ofString "_value_disallowed_re"), key := Value.str (Str.ofString "_value_disallowed_re") 350, val := Value.ref 48 }, { hash := PyData.keyHash P (Str.ofString "Headers"), key := Value.str (Str.ofString "Headers") 507, val := Value.ref 171 }, { hash := PyData.keyHash P (Str.ofString "Error"), key := Value.str (Str.ofString "Error") 529, val := Value.ref 185 }, { hash := PyData.keyHash P (Str.ofString "error_reply"), key := Value.str (Str.ofString "error_reply") 545, val := Value.ref 198 }, { hash := PyData.keyHash P (Str.ofString "error_proto"), key := Value.str (Str.ofString "error_proto") 561, val := Value.ref 210 }, { hash := PyData.keyHash P (Str.ofString "parse229"), key := Value.str (Str.ofString "parse229") 574, val := Value.ref 219 }, { hash := PyData.keyHash P (Str.ofString "Whitespace"), key := Value.str (Str.ofString "Whitespace") 677, val := Value.ref 281 }, { hash := PyData.keyHash P (Str.ofString "_law_seek"), key := Value.str (Str.ofString "_law_seek") 694, val := Value.ref 292 }, { hash := PyData.keyHash P (Str.ofString "_law_lead"), key := Value.str (Str.ofString "_law_lead") 700, val := Value.ref 297 }, { hash := PyData.keyHash P (Str.ofString "_law_held"), key := Value.str (Str.ofString "_law_held") 706, val := Value.ref 302 }, { hash := PyData.keyHash P (Str.ofString "_law_taken"), key := Value.str (Str.ofString "_law_taken") 712, val := Value.ref 307 }, { hash := PyData.keyHash P (Str.ofString "_law_went"), key := Value.str (Str.ofString "_law_went") 726, val := Value.ref 314 }, { hash := PyData.keyHash P (Str.ofString "law"), key := Value.str (Str.ofString "law") 732, val := Value.ref 319 }] 25 }) :: (nat_lit 32, { cls := Value.type "tuple", data := Data.seq #[] }) :: (nat_lit 34, { cls := Value.type "tuple", data := Data.seq #[Value.str (Str.ofString "k") 285] }) :: (nat_lit 35, { cls := Value.type "tuple", data := Data.seq #[] }) :: (nat_lit 37, { cls := Value.type "code", data := Data.fields #[Value.str (Str.ofString "_wall") 282, Value.str (Str.ofString "_wall") 283, Value.str (Str.ofString "/claim/cut.py") 284, Value.int 2 0, Value.int 1 0, Value.int 0 0, Value.int 0 0, Value.int 3 0, Value.ref 32, Value.bool true, Value.int 276 0, Value.ref 33, Value.none, Value.ref 34, Value.ref 35, Value.ref 36, Value.int 286 0, Value.int 2 0, Value.str (Str.ofString "/claim/cut.py") 287] }) :: (nat_lit 38, { cls := Value.type "function", data := Data.func { name := Str.ofString "_wall", qualname := Str.ofString "_wall", params := a0F, body := FuncBody.stmts b0F, scope := c0F, globals := 3, closure := [], defaults := Value.none, kwdefaults := Value.none, pyModule := Value.str (Str.ofString "__main__") 164, code := Value.ref 37 } }) :: (nat_lit 42, { cls := Value.type "tuple", data := Data.seq #[Value.int 14 0, Value.int 10 0, Value.int 4 0, Value.int 1 0, Value.int 1 0, Value.int 22 0, Value.int 0 0, Value.int 31 0, Value.int 16 0, Value.int 127 0, Value.int 0 0, Value.int 13 0, Value.int 7 0, Value.int 22 0, Value.int 0 0, Value.int 31 0, Value.int 16 0, Value.int 127 0, Value.int 0 0, Value.int 1 0] }) :: (nat_lit 43, { cls := Value.type "re.Pattern", data := Data.fields #[Value.str (Str.ofString "[\\x00-\\x1F\\x7F]") 292, Value.int 32 315, Value.int 0 0, Value.none, Value.none, Value.ref 42, Value.int 0 0] }) :: (nat_lit 47, { cls := Value.type "tuple", data := Data.seq #[Value.int 14 0, Value.int 14 0, Value.int 4 0, Value.int 1 0, Value.int 1 0, Value.int 9 0, Value.int 4294966783 0, Value.int 0 0, Value.int 0 0, Value.int 2147483648 0, Value.int 0 0, Value.int 0 0, Value.int 0 0, Value.int 0 0, Value.int 0 0, Value.int 13 0, Value.int 11 0, Value.int 9 0, Value.int 4294966783 0, Value.int 0 0, Value.int 0 0, Value.int 2147483648 0, Value.int 0 0, Value.int 0 0, Value.int 0 0, Value.int 0 0, Value.int 0 0, Value.int 1 0] }) :: (nat_lit 48, { cls := Value.type "re.Pattern", data := Data.fields #[Value.str (Str.ofString "[\\x00-\\x08\\x0A-\\x1F\\x7F]") 318, Value.int 32 349, Value.int 0 0, Value.none, Value.none, Value.ref 47, Value.int 0 0] }) :: (nat_lit 56, { cls := Value.type "tuple", data := Data.seq #[Value.none] }) :: (nat_lit 57, { cls := Value.type "tuple", data := Data.seq #[] }) :: (nat_lit 59, { cls := Value.type "tuple", data := Data.seq #[Value.str (Str.ofString "self") 366, Value.str (Str.ofString "headers") 367, Value.str (Str.ofString "k") 368, Value.str (Str.ofString "v") 369] }) :: (nat_lit 60, { cls := Value.type "tuple", data := Data.seq #[] }) :: (nat_lit 62, { cls := Value.type "code", data := Data.fields #[Value.str (Str.ofString "__init__") 363, Value.str (Str.ofString "Headers.__init__") 364, Value.str (Str.ofString "/claim/cut.py") 365, Value.int 10 0, Value.int 2 0, Value.int 0 0, Value.int 0 0, Value.int 3 0, Value.ref 57, Value.bool true, Value.int 276 0, Value.ref 58, Value.none, Value.ref 59, Value.ref 60, Value.ref 61, Value.int 370 0, Value.int 10 0, Value.str (Str.ofString "/claim/cut.py") 371] }) :: (nat_lit 63, { cls := Value.type "function", data := Data.func { name := Str.ofString "__init__", qualname := Str.ofString "Headers.__init__", params := a1F, body := FuncBody.stmts b1F, scope := c1F, globals := 3, closure := [], defaults := Value.ref 56, kwdefaults := Value.none, pyModule := Value.str (Str.ofString "cpy313.wsgiref.headers") 289, code := Value.ref 62 } }) :: (nat_lit 64, { cls := Value.type "tuple", data := Data.seq #[] }) :: (nat_lit 66, { cls := Value.type "tuple", data := Data.seq #[Value.str (Str.ofString "self") 376, Value.str (Str.ofString "value") 377, Value.str (Str.ofString "name") 378, Value.str (Str.ofString "regex") 379] }) :: (nat_lit 67, { cls := Value.type "tuple", data := Data.seq #[] }) :: (nat_lit 69, { cls := Value.type "code", data := Data.fields #[Value.str (Str.ofString "_convert_string_type") 373, Value.str (Str.ofString "Headers._convert_string_type") 374, Value.str (Str.ofString "/claim/cut.py") 375, Value.int 20 0, Value.int 2 0, Value.int 0 0, Value.int 1 0, Value.int 3 0, Value.ref 64, Value.bool true, Value.int 276 0, Value.ref 65, Value.none, Value.ref 66, Value.ref 67, Value.ref 68, Value.int 380 0, Value.int 20 0, Value.str (Str.ofString "/claim/cut.py") 381] }) :: (nat_lit 70, { cls := Value.type "function", data := Data.func { name := Str.ofString "_convert_string_type", qualname := Str.ofString "Headers._convert_string_type", params := a2F, body := FuncBody.stmts b2F, scope := c2F, globals := 3, closure := [], defaults := Value.none, kwdefaults := Value.none, pyModule := Value.str (Str.ofString "cpy313.wsgiref.headers") 289, code := Value.ref 69 } }) :: (nat_lit 71, { cls := Value.type "tuple", data := Data.seq #[] }) :: (nat_lit 73, { cls := Value.type "tuple", data := Data.seq #[Value.str (Str.ofString "self") 386] }) :: (nat_lit 74, { cls := Value.type "tuple", data := Data.seq #[] }) :: (nat_lit 76, { cls := Value.type "code", data := Data.fields #[Value.str (Str.ofString "__len__") 383, Value.str (Str.ofString "Headers.__len__") 384, Value.str (Str.ofString "/claim/cut.py") 385, Value.int 28 0, Value.int 1 0, Value.int 0 0, Value.int 0 0, Value.int 3 0, Value.ref 71, Value.bool true, Value.int 276 0, Value.ref 72, Value.none, Value.ref 73, Value.ref 74, Value.ref 75, Value.int 387 0, Value.int 28 0, Value.str (Str.ofString "/claim/cut.py") 388] }) :: (nat_lit 77, { cls := Value.type "function", data := Data.func { name := Str.ofString "__len__", qualname := Str.ofString "Headers.__len__", params := a3F, body := FuncBody.stmts b3F, scope := c3F, globals := 3, closure := [], defaults := Value.none, kwdefaults := Value.none, pyModule := Value.str (Str.ofString "cpy313.wsgiref.headers") 289, code := Value.ref 76 } }) :: (nat_lit 78, { cls := Value.type "tuple", data := Data.seq #[] }) :: (nat_lit 80, { cls := Value.type "tuple", data := Data.seq #[Value.str (Str.ofString "self") 393, Value.str (Str.ofString "name") 394, Value.str (Str.ofString "val") 395] }) :: (nat_lit 81, { cls := Value.type "tuple", data := Data.seq #[] }) :: (nat_lit 83, { cls := Value.type "code", data := Data.fields #[Value.str (Str.ofString "__setitem__") 390, Value.str (Str.ofString "Headers.__setitem__") 391, Value.str (Str.ofString "/claim/cut.py") 392, Value.int 31 0, Value.int 3 0, Value.int 0 0, Value.int 0 0, Value.int 3 0, Value.ref 78, Value.bool true, Value.int 276 0, Value.ref 79, Value.none, Value.ref 80, Value.ref 81, Value.ref 82, Value.int 396 0, Value.int 31 0, Value.str (Str.ofString "/claim/cut.py") 397] }) :: (nat_lit 84, { cls := Value.type "function", data := Data.func { name := Str.ofString "__setitem__", qualname := Str.ofString "Headers.__setitem__", params := a4F, body := FuncBody.stmts b4F, scope := c4F, globals := 3, closure := [], defaults := Value.none, kwdefaults := Value.none, pyModule := Value.str (Str.ofString "cpy313.wsgiref.headers") 289, code := Value.ref 83 } }) :: (nat_lit 85, { cls := Value.type "tuple", data := Data.seq #[] }) :: (nat_lit 88, { cls := Value.type "code", data := Data.fields #[Value.str (Str.ofString "__delitem__") 399, Value.str (Str.ofString "Headers.__delitem__") 400, Value.str (Str.ofString "/claim/cut.py") 401, Value.int 35 0, Value.int 2 0, Value.int 0 0, Value.int 0 0, Value.int 3 0, Value.ref 85, Value.bool true, Value.int 276 0, Value.ref 86, Value.none, Value.none, Value.none, Value.ref 87, Value.int 402 0, Value.int 35 0, Value.str (Str.ofString "/claim/cut.py") 403] }) :: (nat_lit 89, { cls := Value.type "function", data := Data.func { name := Str.ofString "__delitem__", qualname := Str.ofString "Headers.__delitem__", params := a5F, body := FuncBody.stmts b5F, scope := c5F, globals := 3, closure := [], defaults := Value.none, kwdefaults := Value.none, pyModule := Value.str (Str.ofString "cpy313.wsgiref.headers") 289, code := Value.ref 88 } }) :: (nat_lit 90, { cls := Value.type "tuple", data := Data.seq #[] }) :: (nat_lit 92, { cls := Value.type "tuple", data := Data.seq #[Value.str (Str.ofString "self") 408, Value.str (Str.ofString "name") 409] }) :: (nat_lit 93, { cls := Value.type "tuple", data := Data.seq #[] }) :: (nat_lit 95, { cls := Value.type "code", data := Data.fields #[Value.str (Str.ofString "__getitem__") 405, Value.str (Str.ofString "Headers.__getitem__") 406, Value.str (Str.ofString "/claim/cut.py") 407, Value.int 39 0, Value.int 2 0, Value.int 0 0, Value.int 0 0, Value.int 3 0, Value.ref 90, Value.bool true, Value.int 276 0, Value.ref 91, Value.none, Value.ref 92, Value.ref 93, Value.ref 94, Value.int 410 0, Value.int 39 0, Value.str (Str.ofString "/claim/cut.py") 411] }) :: (nat_lit 96, { cls := Value.type "function", data := Data.func { name := Str.ofString "__getitem__", qualname := Str.ofString "Headers.__getitem__", params := a6F, body := FuncBody.stmts b6F, scope := c6F, globals := 3, closure := [], defaults := Value.none, kwdefaults := Value.none, pyModule := Value.str (Str.ofString "cpy313.wsgiref.headers") 289, code := Value.ref 95 } }) :: (nat_lit 97, { cls := Value.type "tuple", data := Data.seq #[] }) :: (nat_lit 99, { cls := Value.type "tuple", data := Data.seq #[Value.str (Str.ofString "self") 416, Value.str (Str.ofString "name") 417] }) :: (nat_lit 100, { cls := Value.type "tuple", data := Data.seq #[] }) :: (nat_lit 102, { cls := Value.type "code", data := Data.fields #[Value.str (Str.ofString "__contains__") 413, Value.str (Str.ofString "Headers.__contains__") 414, Value.str (Str.ofString "/claim/cut.py") 415, Value.int 42 0, Value.int 2 0, Value.int 0 0, Value.int 0 0, Value.int 3 0, Value.ref 97, Value.bool true, Value.int 276 0, Value.ref 98, Value.none, Value.ref 99, Value.ref 100, Value.ref 101, Value.int 418 0, Value.int 42 0, Value.str (Str.ofString "/claim/cut.py") 419] }) :: (nat_lit 103, { cls := Value.type "function", data := Data.func { name := Str.ofString "__contains__", qualname := Str.ofString "Headers.__contains__", params := a7F, body := FuncBody.stmts b7F, scope := c7F, globals := 3, closure := [], defaults := Value.none, kwdefaults := Value.none, pyModule := Value.str (Str.ofString "cpy313.wsgiref.headers") 289, code := Value.ref 102 } }) :: (nat_lit 104, { cls := Value.type "tuple", data := Data.seq #[] }) :: (nat_lit 106, { cls := Value.type "tuple", data := Data.seq #[Value.str (Str.ofString "self") 424, Value.str (Str.ofString "name") 425] }) :: (nat_lit 107, { cls := Value.type "tuple", data := Data.seq #[] }) :: (nat_lit 109, { cls := Value.type "code", data := Data.fields #[Value.str (Str.ofString "get_all") 421, Value.str (Str.ofString "Headers.get_all") 422, Value.str (Str.ofString "/claim/cut.py") 423, Value.int 45 0, Value.int 2 0, Value.int 0 0, Value.int 0 0, Value.int 3 0, Value.ref 104, Value.bool true, Value.int 276 0, Value.ref 105, Value.none, Value.ref 106, Value.ref 107, Value.ref 108, Value.int 426 0, Value.int 45 0, Value.str (Str.ofString "/claim/cut.py") 427] }) :: (nat_lit 110, { cls := Value.type "function", data := Data.func { name := Str.ofString "get_all", qualname := Str.ofString "Headers.get_all", params := a8F, body := FuncBody.stmts b8F, scope := c8F, globals := 3, closure := [], defaults := Value.none, kwdefaults := Value.none, pyModule := Value.str (Str.ofString "cpy313.wsgiref.headers") 289, code := Value.ref 109 } }) :: (nat_lit 111, { cls := Value.type "tuple", data := Data.seq #[Value.none] }) :: (nat_lit 112, { cls := Value.type "tuple", data := Data.seq #[] }) :: (nat_lit 114, { cls := Value.type "tuple", data := Data.seq #[Value.str (Str.ofString "self") 432, Value.str (Str.ofString "name") 433, Value.str (Str.ofString "default") 434, Value.str (Str.ofString "k") 435, Value.str (Str.ofString "v") 436] }) :: (nat_lit 115, { cls := Value.type "tuple", data := Data.seq #[] }) :: (nat_lit 117, { cls := Value.type "code", data := Data.fields #[Value.str (Str.ofString "get") 429, Value.str (Str.ofString "Headers.get") 430, Value.str (Str.ofString "/claim/cut.py") 431, Value.int 48 0, Value.int 3 0, Value.int 0 0, Value.int 0 0, Value.int 3 0, Value.ref 112, Value.bool true, Value.int 276 0, Value.ref 113, Value.none, Value.ref 114, Value.ref 115, Value.ref 116, Value.int 437 0, Value.int 48 0, Value.str (Str.ofString "/claim/cut.py") 438] }) :: (nat_lit 118, { cls := Value.type "function", data := Data.func { name := Str.ofString "get", qualname := Str.ofString "Headers.get", params := a9F, body := FuncBody.stmts b9F, scope := c9F, globals := 3, closure := [], defaults := Value.ref 111, kwdefaults := Value.none, pyModule := Value.str (Str.ofString "cpy313.wsgiref.headers") 289, code := Value.ref 117 } }) :: (nat_lit 119, { cls := Value.type "tuple", data := Data.seq #[] }) :: (nat_lit 122, { cls := Value.type "code", data := Data.fields #[Value.str (Str.ofString "keys") 440, Value.str (Str.ofString "Headers.keys") 441, Value.str (Str.ofString "/claim/cut.py") 442, Value.int 55 0, Value.int 1 0, Value.int 0 0, Value.int 0 0, Value.int 3 0, Value.ref 119, Value.bool true, Value.int 276 0, Value.ref 120, Value.none, Value.none, Value.none, Value.ref 121, Value.int 443 0, Value.int 55 0, Value.str (Str.ofString "/claim/cut.py") 444] }) :: (nat_lit 123, { cls := Value.type "function", data := Data.func { name := Str.ofString "keys", qualname := Str.ofString "Headers.keys", params := a10F, body := FuncBody.stmts b10F, scope := c10F, globals := 3, closure := [], defaults := Value.none, kwdefaults := Value.none, pyModule := Value.str (Str.ofString "cpy313.wsgiref.headers") 289, code := Value.ref 122 } }) :: (nat_lit 124, { cls := Value.type "tuple", data := Data.seq #[] }) :: (nat_lit 127, { cls := Value.type "code", data := Data.fields #[Value.str (Str.ofString "values") 446, Value.str (Str.ofString "Headers.values") 447, Value.str (Str.ofString "/claim/cut.py") 448, Value.int 58 0, Value.int 1 0, Value.int 0 0, Value.int 0 0, Value.int 3 0, Value.ref 124, Value.bool true, Value.int 276 0, Value.ref 125, Value.none, Value.none, Value.none, Value.ref 126, Value.int 449 0, Value.int 58 0, Value.str (Str.ofString "/claim/cut.py") 450] }) :: (nat_lit 128, { cls := Value.type "function", data := Data.func { name := Str.ofString "values", qualname := Str.ofString "Headers.values", params := a11F, body := FuncBody.stmts b11F, scope := c11F, globals := 3, closure := [], defaults := Value.none, kwdefaults := Value.none, pyModule := Value.str (Str.ofString "cpy313.wsgiref.headers") 289, code := Value.ref 127 } }) :: (nat_lit 129, { cls := Value.type "tuple", data := Data.seq #[] }) :: (nat_lit 131, { cls := Value.type "tuple", data := Data.seq #[Value.str (Str.ofString "self") 455] }) :: (nat_lit 132, { cls := Value.type "tuple", data := Data.seq #[] }) :: (nat_lit 134, { cls := Value.type "code", data := Data.fields #[Value.str (Str.ofString "items") 452, Value.str (Str.ofString "Headers.items") 453, Value.str (Str.ofString "/claim/cut.py") 454, Value.int 61 0, Value.int 1 0, Value.int 0 0, Value.int 0 0, Value.int 3 0, Value.ref 129, Value.bool true, Value.int 276 0, Value.ref 130, Value.none, Value.ref 131, Value.ref 132, Value.ref 133, Value.int 456 0, Value.int 61 0, Value.str (Str.ofString "/claim/cut.py") 457] }) :: (nat_lit 135, { cls := Value.type "function", data := Data.func { name := Str.ofString "items", qualname := Str.ofString "Headers.items", params := a12F, body := FuncBody.stmts b12F, scope := c12F, globals := 3, closure := [], defaults := Value.none, kwdefaults := Value.none, pyModule := Value.str (Str.ofString "cpy313.wsgiref.headers") 289, code := Value.ref 134 } }) :: (nat_lit 136, { cls := Value.type "tuple", data := Data.seq #[] }) :: (nat_lit 138, { cls := Value.type "tuple", data := Data.seq #[Value.str (Str.ofString "self") 462] }) :: (nat_lit 139, { cls := Value.type "tuple", data := Data.seq #[] }) :: (nat_lit 141, { cls := Value.type "code", data := Data.fields #[Value.str (Str.ofString "__repr__") 459, Value.str (Str.ofString "Headers.__repr__") 460, Value.str (Str.ofString "/claim/cut.py") 461, Value.int 64 0, Value.int 1 0, Value.int 0 0, Value.int 0 0, Value.int 3 0, Value.ref 136, Value.bool true, Value.int 276 0, Value.ref 137, Value.none, Value.ref 138, Value.ref 139, Value.ref 140, Value.int 463 0, Value.int 64 0, Value.str (Str.ofString "/claim/cut.py") 464] }) :: (nat_lit 142, { cls := Value.type "function", data := Data.func { name := Str.ofString "__repr__", qualname := Str.ofString "Headers.__repr__", params := a13F, body := FuncBody.stmts b13F, scope := c13F, globals := 3, closure := [], defaults := Value.none, kwdefaults := Value.none, pyModule := Value.str (Str.ofString "cpy313.wsgiref.headers") 289, code := Value.ref 141 } }) :: (nat_lit 143, { cls := Value.type "tuple", data := Data.seq #[] }) :: (nat_lit 146, { cls := Value.type "code", data := Data.fields #[Value.str (Str.ofString "__str__") 466, Value.str (Str.ofString "Headers.__str__") 467, Value.str (Str.ofString "/claim/cut.py") 468, Value.int 67 0, Value.int 1 0, Value.int 0 0, Value.int 0 0, Value.int 3 0, Value.ref 143, Value.bool true, Value.int 276 0, Value.ref 144, Value.none, Value.none, Value.none, Value.ref 145, Value.int 469 0, Value.int 67 0, Value.str (Str.ofString "/claim/cut.py") 470] }) :: (nat_lit 147, { cls := Value.type "function", data := Data.func { name := Str.ofString "__str__", qualname := Str.ofString "Headers.__str__", params := a14F, body := FuncBody.stmts b14F, scope := c14F, globals := 3, closure := [], defaults := Value.none, kwdefaults := Value.none, pyModule := Value.str (Str.ofString "cpy313.wsgiref.headers") 289, code := Value.ref 146 } }) :: (nat_lit 148, { cls := Value.type "tuple", data := Data.seq #[] }) :: (nat_lit 150, { cls := Value.type "tuple", data := Data.seq #[Value.str (Str.ofString "self") 475] }) :: (nat_lit 151, { cls := Value.type "tuple", data := Data.seq #[] }) :: (nat_lit 153, { cls := Value.type "code", data := Data.fields #[Value.str (Str.ofString "__bytes__") 472, Value.str (Str.ofString "Headers.__bytes__") 473, Value.str (Str.ofString "/claim/cut.py") 474, Value.int 70 0, Value.int 1 0, Value.int 0 0, Value.int 0 0, Value.int 3 0, Value.ref 148, Value.bool true, Value.int 276 0, Value.ref 149, Value.none, Value.ref 150, Value.ref 151, Value.ref 152, Value.int 476 0, Value.int 70 0, Value.str (Str.ofString "/claim/cut.py") 477] }) :: (nat_lit 154, { cls := Value.type "function", data := Data.func { name := Str.ofString "__bytes__", qualname := Str.ofString "Headers.__bytes__", params := a15F, body := FuncBody.stmts b15F, scope := c15F, globals := 3, closure := [], defaults := Value.none, kwdefaults := Value.none, pyModule := Value.str (Str.ofString "cpy313.wsgiref.headers") 289, code := Value.ref 153 } }) :: (nat_lit 155, { cls := Value.type "tuple", data := Data.seq #[] }) :: (nat_lit 157, { cls := Value.type "tuple", data := Data.seq #[Value.str (Str.ofString "self") 482, Value.str (Str.ofString "name") 483, Value.str (Str.ofString "value") 484, Value.str (Str.ofString "result") 485] }) :: (nat_lit 158, { cls := Value.type "tuple", data := Data.seq #[] }) :: (nat_lit 160, { cls := Value.type "code", data := Data.fields #[Value.str (Str.ofString "setdefault") 479, Value.str (Str.ofString "Headers.setdefault") 480, Value.str (Str.ofString "/claim/cut.py") 481, Value.int 73 0, Value.int 3 0, Value.int 0 0, Value.int 0 0, Value.int 3 0, Value.ref 155, Value.bool true, Value.int 276 0, Value.ref 156, Value.none, Value.ref 157, Value.ref 158, Value.ref 159, Value.int 486 0, Value.int 73 0, Value.str (Str.ofString "/claim/cut.py") 487] }) :: (nat_lit 161, { cls := Value.type "function", data := Data.func { name := Str.ofString "setdefault", qualname := Str.ofString "Headers.setdefault", params := a16F, body := FuncBody.stmts b16F, scope := c16F, globals := 3, closure := [], defaults := Value.none, kwdefaults := Value.none, pyModule := Value.str (Str.ofString "cpy313.wsgiref.headers") 289, code := Value.ref 160 } }) :: (nat_lit 162, { cls := Value.type "tuple", data := Data.seq #[] }) :: (nat_lit 164, { cls := Value.type "tuple", data := Data.seq #[Value.str (Str.ofString "self") 492, Value.str (Str.ofString "_name") 493, Value.str (Str.ofString "_value") 494, Value.str (Str.ofString "_params") 495] }) :: (nat_lit 165, { cls := Value.type "tuple", data := Data.seq #[] }) :: (nat_lit 167, { cls := Value.type "code", data := Data.fields #[Value.str (Str.ofString "add_header") 489, Value.str (Str.ofString "Headers.add_header") 490, Value.str (Str.ofString "/claim/cut.py") 491, Value.int 81 0, Value.int 3 0, Value.int 0 0, Value.int 0 0, Value.int 11 0, Value.ref 162, Value.bool true, Value.int 276 0, Value.ref 163, Value.none, Value.ref 164, Value.ref 165, Value.ref 166, Value.int 496 0, Value.int 81 0, Value.str (Str.ofString "/claim/cut.py") 497] }) :: (nat_lit 168, { cls := Value.type "function", data := Data.func { name := Str.ofString "add_header", qualname := Str.ofString "Headers.add_header", params := a17F, body := FuncBody.stmts b17F, scope := c17F, globals := 3, closure := [], defaults := Value.none, kwdefaults := Value.none, pyModule := Value.str (Str.ofString "cpy313.wsgiref.headers") 289, code := Value.ref 167 } }) :: (nat_lit 169, { cls := Value.type "tuple", data := Data.seq #[Value.str (Str.ofString "_headers") 499] }) :: (nat_lit 170, { cls := Value.type "dict", data := Data.dict #[{ hash := PyData.keyHash P (Str.ofString "__module__"), key := Value.str (Str.ofString "__module__") 358, val := Value.str (Str.ofString "cpy313.wsgiref.headers") 289 }, { hash := PyData.keyHash P (Str.ofString "__firstlineno__"), key := Value.str (Str.ofString "__firstlineno__") 362, val := Value.int 8 361 }, { hash := PyData.keyHash P (Str.ofString "__init__"), key := Value.str (Str.ofString "__init__") 372, val := Value.ref 63 }, { hash := PyData.keyHash P (Str.ofString "_convert_string_type"), key := Value.str (Str.ofString "_convert_string_type") 382, val := Value.ref 70 }, { hash := PyData.keyHash P (Str.ofString "__len__"), key := Value.str (Str.ofString "__len__") 389, val := Value.ref 77 }, { hash := PyData.keyHash P (Str.ofString "__setitem__"), key := Value.str (Str.ofString "__setitem__") 398, val := Value.ref 84 }, { hash := PyData.keyHash P (Str.ofString "__delitem__"), key := Value.str (Str.ofString "__delitem__") 404, val := Value.ref 89 }, { hash := PyData.keyHash P (Str.ofString "__getitem__"), key := Value.str (Str.ofString "__getitem__") 412, val := Value.ref 96 }, { hash := PyData.keyHash P (Str.ofString "__contains__"), key := Value.str (Str.ofString "__contains__") 420, val := Value.ref 103 }, { hash := PyData.keyHash P (Str.ofString "get_all"), key := Value.str (Str.ofString "get_all") 428, val := Value.ref 110 }, { hash := PyData.keyHash P (Str.ofString "get"), key := Value.str (Str.ofString "get") 439, val := Value.ref 118 }, { hash := PyData.keyHash P (Str.ofString "keys"), key := Value.str (Str.ofString "keys") 445, val := Value.ref 123 }, { hash := PyData.keyHash P (Str.ofString "values"), key := Value.str (Str.ofString "values") 451, val := Value.ref 128 }, { hash := PyData.keyHash P (Str.ofString "items"), key := Value.str (Str.ofString "items") 458, val := Value.ref 135 }, { hash := PyData.keyHash P (Str.ofString "__repr__"), key := Value.str (Str.ofString "__repr__") 465, val := Value.ref 142 }, { hash := PyData.keyHash P (Str.ofString "__str__"), key := Value.str (Str.ofString "__str__") 471, val := Value.ref 147 }, { hash := PyData.keyHash P (Str.ofString "__bytes__"), key := Value.str (Str.ofString "__bytes__") 478, val := Value.ref 154 }, { hash := PyData.keyHash P (Str.ofString "setdefault"), key := Value.str (Str.ofString "setdefault") 488, val := Value.ref 161 }, { hash := PyData.keyHash P (Str.ofString "add_header"), key := Value.str (Str.ofString "add_header") 498, val := Value.ref 168 }, { hash := PyData.keyHash P (Str.ofString "__static_attributes__"), key := Value.str (Str.ofString "__static_attributes__") 500, val := Value.ref 169 }, { hash := PyData.keyHash P (Str.ofString "__dict__"), key := Value.str (Str.ofString "__dict__") 502, val := Value.ref 172 }, { hash := PyData.keyHash P (Str.ofString "__weakref__"), key := Value.str (Str.ofString "__weakref__") 504, val := Value.ref 173 }, { hash := PyData.keyHash P (Str.ofString "__doc__"), key := Value.str (Str.ofString "__doc__") 505, val := Value.none }] 4 }) :: (nat_lit 171, { cls := Value.type "type", data := Data.cls { name := Str.ofString "Headers", bases := [Value.type "object"], mro := [Value.ref 171, Value.type "object"], ns := 170, qualname := Str.ofString "Headers" }, slots := #[none, none, some (Value.str (Str.ofString "Headers") 351), some (Value.str (Str.ofString "Headers") 359), some (Value.builtin "object.__new__"), some (Value.bool true)] }) :: (nat_lit 172, { cls := Value.type "getset_descriptor", data := Data.fields #[Value.str (Str.ofString "__dict__") 501, Value.ref 171, Value.builtin "function.__dict__", Value.builtin "function.__dict__#set"] }) :: (nat_lit 173, { cls := Value.type "getset_descriptor", data := Data.fields #[Value.str (Str.ofString "__weakref__") 503, Value.ref 171, Value.builtin "ExceptionGroup.__weakref__", Value.none] }) :: (nat_lit 176, { cls := Value.type "tuple", data := Data.seq #[Value.type "Exception"] }) :: (nat_lit 183, { cls := Value.type "tuple", data := Data.seq #[] }) :: (nat_lit 184, { cls := Value.type "dict", data := Data.dict #[{ hash := PyData.keyHash P (Str.ofString "__module__"), key := Value.str (Str.ofString "__module__") 517, val := Value.str (Str.ofString "cpy313.ftplib") 508 }, { hash := PyData.keyHash P (Str.ofString "__firstlineno__"), key := Value.str (Str.ofString "__firstlineno__") 521, val := Value.int 84 520 }, { hash := PyData.keyHash P (Str.ofString "__static_attributes__"), key := Value.str (Str.ofString "__static_attributes__") 522, val := Value.ref 183 }, { hash := PyData.keyHash P (Str.ofString "__weakref__"), key := Value.str (Str.ofString "__weakref__") 524, val := Value.ref 186 }, { hash := PyData.keyHash P (Str.ofString "__doc__"), key := Value.str (Str.ofString "__doc__") 525, val := Value.none }] 3 }) :: (nat_lit 185, { cls := Value.type "type", data := Data.cls { name := Str.ofString "Error", bases := [Value.type "Exception"], mro := [Value.ref 185, Value.type "Exception", Value.type "BaseException", Value.type "object"], ns := 184, qualname := Str.ofString "Error", subclasses := [Value.ref 198, Value.ref 210] }, slots := #[some (Value.ref 176), none, some (Value.str (Str.ofString "Error") 510), some (Value.str (Str.ofString "Error") 518), some (Value.builtin "Exception.__new__"), some (Value.bool true)] }) :: (nat_lit 186, { cls := Value.type "getset_descriptor", data := Data.fields #[Value.str (Str.ofString "__weakref__") 523, Value.ref 185, Value.builtin "ExceptionGroup.__weakref__", Value.none] }) :: (nat_lit 189, { cls := Value.type "tuple", data := Data.seq #[Value.ref 185] }) :: (nat_lit 196, { cls := Value.type "tuple", data := Data.seq #[] }) :: (nat_lit 197, { cls := Value.type "dict", data := Data.dict #[{ hash := PyData.keyHash P (Str.ofString "__module__"), key := Value.str (Str.ofString "__module__") 537, val := Value.str (Str.ofString "cpy313.ftplib") 508 }, { hash := PyData.keyHash P (Str.ofString "__firstlineno__"), key := Value.str (Str.ofString "__firstlineno__") 541, val := Value.int 86 540 }, { hash := PyData.keyHash P (Str.ofString "__static_attributes__"), key := Value.str (Str.ofString "__static_attributes__") 542, val := Value.ref 196 }, { hash := PyData.keyHash P (Str.ofString "__doc__"), key := Value.str (Str.ofString "__doc__") 543, val := Value.none }] 2 }) :: (nat_lit 198, { cls := Value.type "type", data := Data.cls { name := Str.ofString "error_reply", bases := [Value.ref 185], mro := [Value.ref 198, Value.ref 185, Value.type "Exception", Value.type "BaseException", Value.type "object"], ns := 197, qualname := Str.ofString "error_reply" }, slots := #[some (Value.ref 189), none, some (Value.str (Str.ofString "error_reply") 530), some (Value.str (Str.ofString "error_reply") 538), some (Value.builtin "Exception.__new__"), some (Value.bool true)] }) :: (nat_lit 201, { cls := Value.type "tuple", data := Data.seq #[Value.ref 185] }) :: (nat_lit 208, { cls := Value.type "tuple", data := Data.seq #[] }) :: (nat_lit 209, { cls := Value.type "dict", data := Data.dict #[{ hash := PyData.keyHash P (Str.ofString "__module__"), key := Value.str (Str.ofString "__module__") 553, val := Value.str (Str.ofString "cpy313.ftplib") 508 }, { hash := PyData.keyHash P (Str.ofString "__firstlineno__"), key := Value.str (Str.ofString "__firstlineno__") 557, val := Value.int 88 556 }, { hash := PyData.keyHash P (Str.ofString "__static_attributes__"), key := Value.str (Str.ofString "__static_attributes__") 558, val := Value.ref 208 }, { hash := PyData.keyHash P (Str.ofString "__doc__"), key := Value.str (Str.ofString "__doc__") 559, val := Value.none }] 2 }) :: (nat_lit 210, { cls := Value.type "type", data := Data.cls { name := Str.ofString "error_proto", bases := [Value.ref 185], mro := [Value.ref 210, Value.ref 185, Value.type "Exception", Value.type "BaseException", Value.type "object"], ns := 209, qualname := Str.ofString "error_proto" }, slots := #[some (Value.ref 201), none, some (Value.str (Str.ofString "error_proto") 546), some (Value.str (Str.ofString "error_proto") 554), some (Value.builtin "Exception.__new__"), some (Value.bool true)] }) :: (nat_lit 213, { cls := Value.type "tuple", data := Data.seq #[] }) :: (nat_lit 215, { cls := Value.type "tuple", data := Data.seq #[Value.str (Str.ofString "resp") 565, Value.str (Str.ofString "peer") 566, Value.str (Str.ofString "left") 567, Value.str (Str.ofString "right") 568, Value.str (Str.ofString "parts") 569, Value.str (Str.ofString "host") 570, Value.str (Str.ofString "port") 571] }) :: (nat_lit 216, { cls := Value.type "tuple", data := Data.seq #[] }) :: (nat_lit 218, { cls := Value.type "code", data := Data.fields #[Value.str (Str.ofString "parse229") 562, Value.str (Str.ofString "parse229") 563, Value.str (Str.ofString "/claim/cut.py") 564, Value.int 90 0, Value.int 2 0, Value.int 0 0, Value.int 0 0, Value.int 3 0, Value.ref 213, Value.bool true, Value.int 276 0, Value.ref 214, Value.none, Value.ref 215, Value.ref 216, Value.ref 217, Value.int 572 0, Value.int 90 0, Value.str (Str.ofString "/claim/cut.py") 573] }) :: (nat_lit 219, { cls := Value.type "function", data := Data.func { name := Str.ofString "parse229", qualname := Str.ofString "parse229", params := a18F, body := FuncBody.stmts b18F, scope := c18F, globals := 3, closure := [], defaults := Value.none, kwdefaults := Value.none, pyModule := Value.str (Str.ofString "cpy313.ftplib") 508, code := Value.ref 218 } }) :: (nat_lit 230, { cls := Value.type "tuple", data := Data.seq #[] }) :: (nat_lit 232, { cls := Value.type "tuple", data := Data.seq #[Value.str (Str.ofString "self") 597, Value.str (Str.ofString "ws") 598, Value.str (Str.ofString "S") 599, Value.str (Str.ofString "T") 600, Value.str (Str.ofString "count") 601, Value.str (Str.ofString "b") 602, Value.str (Str.ofString "n") 603, Value.str (Str.ofString "nt") 604, Value.str (Str.ofString "ch") 605] }) :: (nat_lit 233, { cls := Value.type "tuple", data := Data.seq #[] }) :: (nat_lit 235, { cls := Value.type "code", data := Data.fields #[Value.str (Str.ofString "__init__") 594, Value.str (Str.ofString "Whitespace.__init__") 595, Value.str (Str.ofString "/claim/cut.py") 596, Value.int 111 0, Value.int 2 0, Value.int 0 0, Value.int 0 0, Value.int 3 0, Value.ref 230, Value.bool true, Value.int 276 0, Value.ref 231, Value.none, Value.ref 232, Value.ref 233, Value.ref 234, Value.int 606 0, Value.int 111 0, Value.str (Str.ofString "/claim/cut.py") 607] }) :: (nat_lit 236, { cls := Value.type "function", data := Data.func { name := Str.ofString "__init__", qualname := Str.ofString "Whitespace.__init__", params := a19F, body := FuncBody.stmts b19F, scope := c19F, globals := 3, closure := [], defaults := Value.none, kwdefaults := Value.none, pyModule := Value.str (Str.ofString "cpy313.tabnanny") 575, code := Value.ref 235 } }) :: (nat_lit 237, { cls := Value.type "tuple", data := Data.seq #[] }) :: (nat_lit 239, { cls := Value.type "tuple", data := Data.seq #[Value.str (Str.ofString "self") 612, Value.str (Str.ofString "count") 613, Value.str (Str.ofString "trailing") 614] }) :: (nat_lit 240, { cls := Value.type "tuple", data := Data.seq #[] }) :: (nat_lit 242, { cls := Value.type "code", data := Data.fields #[Value.str (Str.ofString "longest_run_of_spaces") 609, Value.str (Str.ofString "Whitespace.longest_run_of_spaces") 610, Value.str (Str.ofString "/claim/cut.py") 611, Value.int 134 0, Value.int 1 0, Value.int 0 0, Value.int 0 0, Value.int 3 0, Value.ref 237, Value.bool true, Value.int 276 0, Value.ref 238, Value.none, Value.ref 239, Value.ref 240, Value.ref 241, Value.int 615 0, Value.int 134 0, Value.str (Str.ofString "/claim/cut.py") 616] }) :: (nat_lit 243, { cls := Value.type "function", data := Data.func { name := Str.ofString "longest_run_of_spaces", qualname := Str.ofString "Whitespace.longest_run_of_spaces", params := a20F, body := FuncBody.stmts b20F, scope := c20F, globals := 3, closure := [], defaults := Value.none, kwdefaults := Value.none, pyModule := Value.str (Str.ofString "cpy313.tabnanny") 575, code := Value.ref 242 } }) :: (nat_lit 244, { cls := Value.type "tuple", data := Data.seq #[] }) :: (nat_lit 246, { cls := Value.type "tuple", data := Data.seq #[Value.str (Str.ofString "self") 621, Value.str (Str.ofString "tabsize") 622, Value.str (Str.ofString "count") 623, Value.str (Str.ofString "trailing") 624, Value.str (Str.ofString "il") 625, Value.str (Str.ofString "i") 626] }) :: (nat_lit 247, { cls := Value.type "tuple", data := Data.seq #[] }) :: (nat_lit 249, { cls := Value.type "code", data := Data.fields #[Value.str (Str.ofString "indent_level") 618, Value.str (Str.ofString "Whitespace.indent_level") 619, Value.str (Str.ofString "/claim/cut.py") 620, Value.int 138 0, Value.int 2 0, Value.int 0 0, Value.int 0 0, Value.int 3 0, Value.ref 244, Value.bool true, Value.int 276 0, Value.ref 245, Value.none, Value.ref 246, Value.ref 247, Value.ref 248, Value.int 627 0, Value.int 138 0, Value.str (Str.ofString "/claim/cut.py") 628] }) :: (nat_lit 250, { cls := Value.type "function", data := Data.func { name := Str.ofString "indent_level", qualname := Str.ofString "Whitespace.indent_level", params := a21F, body := FuncBody.stmts b21F, scope := c21F, globals := 3, closure := [], defaults := Value.none, kwdefaults := Value.none, pyModule := Value.str (Str.ofString "cpy313.tabnanny") 575, code := Value.ref 249 } }) :: (nat_lit 251, { cls := Value.type "tuple", data := Data.seq #[] }) :: (nat_lit 253, { cls := Value.type "tuple", data := Data.seq #[Value.str (Str.ofString "self") 633, Value.str (Str.ofString "other") 634] }) :: (nat_lit 254, { cls := Value.type "tuple", data := Data.seq #[] }) :: (nat_lit 256, { cls := Value.type "code", data := Data.fields #[Value.str (Str.ofString "equal") 630, Value.str (Str.ofString "Whitespace.equal") 631, Value.str (Str.ofString "/claim/cut.py") 632, Value.int 145 0, Value.int 2 0, Value.int 0 0, Value.int 0 0, Value.int 3 0, Value.ref 251, Value.bool true, Value.int 276 0, Value.ref 252, Value.none, Value.ref 253, Value.ref 254, Value.ref 255, Value.int 635 0, Value.int 145 0, Value.str (Str.ofString "/claim/cut.py") 636] }) :: (nat_lit 257, { cls := Value.type "function", data := Data.func { name := Str.ofString "equal", qualname := Str.ofString "Whitespace.equal", params := a22F, body := FuncBody.stmts b22F, scope := c22F, globals := 3, closure := [], defaults := Value.none, kwdefaults := Value.none, pyModule := Value.str (Str.ofString "cpy313.tabnanny") 575, code := Value.ref 256 } }) :: (nat_lit 258, { cls := Value.type "tuple", data := Data.seq #[] }) :: (nat_lit 260, { cls := Value.type "tuple", data := Data.seq #[Value.str (Str.ofString "self") 641, Value.str (Str.ofString "other") 642, Value.str (Str.ofString "n") 643, Value.str (Str.ofString "a") 644, Value.str (Str.ofString "ts") 645] }) :: (nat_lit 261, { cls := Value.type "tuple", data := Data.seq #[] }) :: (nat_lit 263, { cls := Value.type "code", data := Data.fields #[Value.str (Str.ofString "not_equal_witness") 638, Value.str (Str.ofString "Whitespace.not_equal_witness") 639, Value.str (Str.ofString "/claim/cut.py") 640, Value.int 148 0, Value.int 2 0, Value.int 0 0, Value.int 0 0, Value.int 3 0, Value.ref 258, Value.bool true, Value.int 276 0, Value.ref 259, Value.none, Value.ref 260, Value.ref 261, Value.ref 262, Value.int 646 0, Value.int 148 0, Value.str (Str.ofString "/claim/cut.py") 647] }) :: (nat_lit 264, { cls := Value.type "function", data := Data.func { name := Str.ofString "not_equal_witness", qualname := Str.ofString "Whitespace.not_equal_witness", params := a23F, body := FuncBody.stmts b23F, scope := c23F, globals := 3, closure := [], defaults := Value.none, kwdefaults := Value.none, pyModule := Value.str (Str.ofString "cpy313.tabnanny") 575, code := Value.ref 263 } }) :: (nat_lit 265, { cls := Value.type "tuple", data := Data.seq #[] }) :: (nat_lit 267, { cls := Value.type "tuple", data := Data.seq #[Value.str (Str.ofString "self") 652, Value.str (Str.ofString "other") 653] }) :: (nat_lit 268, { cls := Value.type "tuple", data := Data.seq #[] }) :: (nat_lit 270, { cls := Value.type "code", data := Data.fields #[Value.str (Str.ofString "less") 649, Value.str (Str.ofString "Whitespace.less") 650, Value.str (Str.ofString "/claim/cut.py") 651, Value.int 156 0, Value.int 2 0, Value.int 0 0, Value.int 0 0, Value.int 3 0, Value.ref 265, Value.bool true, Value.int 276 0, Value.ref 266, Value.none, Value.ref 267, Value.ref 268, Value.ref 269, Value.int 654 0, Value.int 156 0, Value.str (Str.ofString "/claim/cut.py") 655] }) :: (nat_lit 271, { cls := Value.type "function", data := Data.func { name := Str.ofString "less", qualname := Str.ofString "Whitespace.less", params := a24F, body := FuncBody.stmts b24F, scope := c24F, globals := 3, closure := [], defaults := Value.none, kwdefaults := Value.none, pyModule := Value.str (Str.ofString "cpy313.tabnanny") 575, code := Value.ref 270 } }) :: (nat_lit 272, { cls := Value.type "tuple", data := Data.seq #[] }) :: (nat_lit 274, { cls := Value.type "tuple", data := Data.seq #[Value.str (Str.ofString "self") 660, Value.str (Str.ofString "other") 661] }) :: (nat_lit 275, { cls := Value.type "tuple", data := Data.seq #[] }) :: (nat_lit 277, { cls := Value.type "code", data := Data.fields #[Value.str (Str.ofString "not_less_witness") 657, Value.str (Str.ofString "Whitespace.not_less_witness") 658, Value.str (Str.ofString "/claim/cut.py") 659, Value.int 159 0, Value.int 2 0, Value.int 0 0, Value.int 0 0, Value.int 3 0, Value.ref 272, Value.bool true, Value.int 276 0, Value.ref 273, Value.none, Value.ref 274, Value.ref 275, Value.ref 276, Value.int 662 0, Value.int 159 0, Value.str (Str.ofString "/claim/cut.py") 663] }) :: (nat_lit 278, { cls := Value.type "function", data := Data.func { name := Str.ofString "not_less_witness", qualname := Str.ofString "Whitespace.not_less_witness", params := a25F, body := FuncBody.stmts b25F, scope := c25F, globals := 3, closure := [], defaults := Value.none, kwdefaults := Value.none, pyModule := Value.str (Str.ofString "cpy313.tabnanny") 575, code := Value.ref 277 } }) :: (nat_lit 279, { cls := Value.type "tuple", data := Data.seq #[Value.str (Str.ofString "is_simple") 665, Value.str (Str.ofString "n") 666, Value.str (Str.ofString "norm") 667, Value.str (Str.ofString "nt") 668, Value.str (Str.ofString "raw") 669] }) :: (nat_lit 280, { cls := Value.type "dict", data := Data.dict #[{ hash := PyData.keyHash P (Str.ofString "__module__"), key := Value.str (Str.ofString "__module__") 584, val := Value.str (Str.ofString "cpy313.tabnanny") 575 }, { hash := PyData.keyHash P (Str.ofString "__firstlineno__"), key := Value.str (Str.ofString "__firstlineno__") 588, val := Value.int 108 587 }, { hash := PyData.keyHash P (Str.ofString "S"), key := Value.str (Str.ofString "S") 592, val := Value.str (Str.ofString " ") 590 }, { hash := PyData.keyHash P (Str.ofString "T"), key := Value.str (Str.ofString "T") 593, val := Value.str (Str.ofString "\t") 591 }, { hash := PyData.keyHash P (Str.ofString "__init__"), key := Value.str (Str.ofString "__init__") 608, val := Value.ref 236 }, { hash := PyData.keyHash P (Str.ofString "longest_run_of_spaces"), key := Value.str (Str.ofString "longest_run_of_spaces") 617, val := Value.ref 243 }, { hash := PyData.keyHash P (Str.ofString "indent_level"), key := Value.str (Str.ofString "indent_level") 629, val := Value.ref 250 }, { hash := PyData.keyHash P (Str.ofString "equal"), key := Value.str (Str.ofString "equal") 637, val := Value.ref 257 }, { hash := PyData.keyHash P (Str.ofString "not_equal_witness"), key := Value.str (Str.ofString "not_equal_witness") 648, val := Value.ref 264 }, { hash := PyData.keyHash P (Str.ofString "less"), key := Value.str (Str.ofString "less") 656, val := Value.ref 271 }, { hash := PyData.keyHash P (Str.ofString "not_less_witness"), key := Value.str (Str.ofString "not_less_witness") 664, val := Value.ref 278 }, { hash := PyData.keyHash P (Str.ofString "__static_attributes__"), key := Value.str (Str.ofString "__static_attributes__") 670, val := Value.ref 279 }, { hash := PyData.keyHash P (Str.ofString "__dict__"), key := Value.str (Str.ofString "__dict__") 672, val := Value.ref 282 }, { hash := PyData.keyHash P (Str.ofString "__weakref__"), key := Value.str (Str.ofString "__weakref__") 674, val := Value.ref 283 }, { hash := PyData.keyHash P (Str.ofString "__doc__"), key := Value.str (Str.ofString "__doc__") 675, val := Value.none }] 4 }) :: (nat_lit 281, { cls := Value.type "type", data := Data.cls { name := Str.ofString "Whitespace", bases := [Value.type "object"], mro := [Value.ref 281, Value.type "object"], ns := 280, qualname := Str.ofString "Whitespace" }, slots := #[none, none, some (Value.str (Str.ofString "Whitespace") 577), some (Value.str (Str.ofString "Whitespace") 585), some (Value.builtin "object.__new__"), some (Value.bool true)] }) :: (nat_lit 282, { cls := Value.type "getset_descriptor", data := Data.fields #[Value.str (Str.ofString "__dict__") 671, Value.ref 281, Value.builtin "function.__dict__", Value.builtin "function.__dict__#set"] }) :: (nat_lit 283, { cls := Value.type "getset_descriptor", data := Data.fields #[Value.str (Str.ofString "__weakref__") 673, Value.ref 281, Value.builtin "ExceptionGroup.__weakref__", Value.none] }) :: (nat_lit 286, { cls := Value.type "tuple", data := Data.seq #[] }) :: (nat_lit 288, { cls := Value.type "tuple", data := Data.seq #[Value.str (Str.ofString "wishes") 683, Value.str (Str.ofString "turn") 684, Value.str (Str.ofString "size") 685, Value.str (Str.ofString "table") 686, Value.str (Str.ofString "k") 687, Value.str (Str.ofString "mark") 688, Value.str (Str.ofString "reply") 689, Value.str (Str.ofString "owner") 690, Value.str (Str.ofString "port") 691] }) :: (nat_lit 289, { cls := Value.type "tuple", data := Data.seq #[] }) :: (nat_lit 291, { cls := Value.type "code", data := Data.fields #[Value.str (Str.ofString "_law_seek") 680, Value.str (Str.ofString "_law_seek") 681, Value.str (Str.ofString "/claim/cut.py") 682, Value.int 162 0, Value.int 3 0, Value.int 0 0, Value.int 0 0, Value.int 3 0, Value.ref 286, Value.bool true, Value.int 276 0, Value.ref 287, Value.none, Value.ref 288, Value.ref 289, Value.ref 290, Value.int 692 0, Value.int 162 0, Value.str (Str.ofString "/claim/cut.py") 693] }) :: (nat_lit 292, { cls := Value.type "function", data := Data.func { name := Str.ofString "_law_seek", qualname := Str.ofString "_law_seek", params := a26F, body := FuncBody.stmts b26F, scope := c26F, globals := 3, closure := [], defaults := Value.none, kwdefaults := Value.none, pyModule := Value.str (Str.ofString "law_tl0048_01") 678, code := Value.ref 291 } }) :: (nat_lit 293, { cls := Value.type "tuple", data := Data.seq #[] }) :: (nat_lit 296, { cls := Value.type "code", data := Data.fields #[Value.str (Str.ofString "_law_lead") 695, Value.str (Str.ofString "_law_lead") 696, Value.str (Str.ofString "/claim/cut.py") 697, Value.int 172 0, Value.int 1 0, Value.int 0 0, Value.int 0 0, Value.int 3 0, Value.ref 293, Value.bool true, Value.int 276 0, Value.ref 294, Value.none, Value.none, Value.none, Value.ref 295, Value.int 698 0, Value.int 172 0, Value.str (Str.ofString "/claim/cut.py") 699] }) :: (nat_lit 297, { cls := Value.type "function", data := Data.func { name := Str.ofString "_law_lead", qualname := Str.ofString "_law_lead", params := a27F, body := FuncBody.stmts b27F, scope := c27F, globals := 3, closure := [], defaults := Value.none, kwdefaults := Value.none, pyModule := Value.str (Str.ofString "law_tl0048_01") 678, code := Value.ref 296 } }) :: (nat_lit 298, { cls := Value.type "tuple", data := Data.seq #[] }) :: (nat_lit 301, { cls := Value.type "code", data := Data.fields #[Value.str (Str.ofString "_law_held") 701, Value.str (Str.ofString "_law_held") 702, Value.str (Str.ofString "/claim/cut.py") 703, Value.int 174 0, Value.int 1 0, Value.int 0 0, Value.int 0 0, Value.int 3 0, Value.ref 298, Value.bool true, Value.int 276 0, Value.ref 299, Value.none, Value.none, Value.none, Value.ref 300, Value.int 704 0, Value.int 174 0, Value.str (Str.ofString "/claim/cut.py") 705] }) :: (nat_lit 302, { cls := Value.type "function", data := Data.func { name := Str.ofString "_law_held", qualname := Str.ofString "_law_held", params := a28F, body := FuncBody.stmts b28F, scope := c28F, globals := 3, closure := [], defaults := Value.none, kwdefaults := Value.none, pyModule := Value.str (Str.ofString "law_tl0048_01") 678, code := Value.ref 301 } }) :: (nat_lit 303, { cls := Value.type "tuple", data := Data.seq #[] }) :: (nat_lit 306, { cls := Value.type "code", data := Data.fields #[Value.str (Str.ofString "_law_taken") 707, Value.str (Str.ofString "_law_taken") 708, Value.str (Str.ofString "/claim/cut.py") 709, Value.int 176 0, Value.int 3 0, Value.int 0 0, Value.int 0 0, Value.int 3 0, Value.ref 303, Value.bool true, Value.int 276 0, Value.ref 304, Value.none, Value.none, Value.none, Value.ref 305, Value.int 710 0, Value.int 176 0, Value.str (Str.ofString "/claim/cut.py") 711] }) :: (nat_lit 307, { cls := Value.type "function", data := Data.func { name := Str.ofString "_law_taken", qualname := Str.ofString "_law_taken", params := a29F, body := FuncBody.stmts b29F, scope := c29F, globals := 3, closure := [], defaults := Value.none, kwdefaults := Value.none, pyModule := Value.str (Str.ofString "law_tl0048_01") 678, code := Value.ref 306 } }) :: (nat_lit 308, { cls := Value.type "tuple", data := Data.seq #[] }) :: (nat_lit 310, { cls := Value.type "tuple", data := Data.seq #[Value.str (Str.ofString "wished") 716, Value.str (Str.ofString "stand") 717, Value.str (Str.ofString "tab") 718, Value.str (Str.ofString "size") 719, Value.str (Str.ofString "onto") 720, Value.str (Str.ofString "k") 721, Value.str (Str.ofString "far") 722, Value.str (Str.ofString "port") 723] }) :: (nat_lit 311, { cls := Value.type "tuple", data := Data.seq #[] }) :: (nat_lit 313, { cls := Value.type "code", data := Data.fields #[Value.str (Str.ofString "_law_went") 713, Value.str (Str.ofString "_law_went") 714, Value.str (Str.ofString "/claim/cut.py") 715, Value.int 181 0, Value.int 4 0, Value.int 0 0, Value.int 0 0, Value.int 3 0, Value.ref 308, Value.bool true, Value.int 276 0, Value.ref 309, Value.none, Value.ref 310, Value.ref 311, Value.ref 312, Value.int 724 0, Value.int 181 0, Value.str (Str.ofString "/claim/cut.py") 725] }) :: (nat_lit 314, { cls := Value.type "function", data := Data.func { name := Str.ofString "_law_went", qualname := Str.ofString "_law_went", params := a30F, body := FuncBody.stmts b30F, scope := c30F, globals := 3, closure := [], defaults := Value.none, kwdefaults := Value.none, pyModule := Value.str (Str.ofString "law_tl0048_01") 678, code := Value.ref 313 } }) :: (nat_lit 315, { cls := Value.type "tuple", data := Data.seq #[] }) :: (nat_lit 318, { cls := Value.type "code", data := Data.fields #[Value.str (Str.ofString "law") 727, Value.str (Str.ofString "law") 728, Value.str (Str.ofString "/claim/cut.py") 729, Value.int 191 0, Value.int 1 0, Value.int 0 0, Value.int 0 0, Value.int 3 0, Value.ref 315, Value.bool true, Value.int 276 0, Value.ref 316, Value.none, Value.none, Value.none, Value.ref 317, Value.int 730 0, Value.int 191 0, Value.str (Str.ofString "/claim/cut.py") 731] }) :: (nat_lit 319, { cls := Value.type "function", data := Data.func { name := Str.ofString "law", qualname := Str.ofString "law", params := a31F, body := FuncBody.stmts b31F, scope := c31F, globals := 3, closure := [], defaults := Value.none, kwdefaults := Value.none, pyModule := Value.str (Str.ofString "law_tl0048_01") 678, code := Value.ref 318 } }) :: []
def KA : List Nat := [2, 3, 32, 34, 35, 37, 38, 42, 43, 47, 48, 56, 57, 59, 60, 62, 63, 64, 66, 67, 69, 70, 71, 73, 74, 76, 77, 78, 80, 81, 83, 84, 85, 88, 89, 90, 92, 93, 95, 96, 97, 99, 100, 102, 103, 104, 106, 107, 109, 110, 111, 112, 114, 115, 117, 118, 119, 122, 123, 124, 127, 128, 129, 131, 132, 134, 135, 136, 138, 139, 141, 142, 143, 146, 147, 148, 150, 151, 153, 154, 155, 157, 158, 160, 161, 162, 164, 165, 167, 168, 169, 170, 171, 172, 173, 176, 183, 184, 185, 186, 189, 196, 197, 198, 201, 208, 209, 210, 213, 215, 216, 218, 219, 230, 232, 233, 235, 236, 237, 239, 240, 242, 243, 244, 246, 247, 249, 250, 251, 253, 254, 256, 257, 258, 260, 261, 263, 264, 265, 267, 268, 270, 271, 272, 274, 275, 277, 278, 279, 280, 281, 282, 283, 286, 288, 289, 291, 292, 293, 296, 297, 298, 301, 302, 303, 306, 307, 308, 310, 311, 313, 314, 315, 318, 319]
end Mine
namespace Mine
open PySem PySem.W PySem.Calls PySem.Spec PyProof.Rows
/-- a frame's names, written -/
noncomputable def mapOf : List (Str × Value) → Str → Option Value
  | [], _ => none
  | p :: r, y => if y = p.1 then some p.2 else mapOf r y
theorem lookup_mapOf (y : Str) : ∀ l : List (Str × Value), l.lookup y = mapOf l y
  | [] => rfl
  | p :: r => by
    unfold mapOf
    rw [List.lookup_cons, ← lookup_mapOf y r]
    by_cases h : y = p.1
    · rw [if_pos h, beq_iff_eq.mpr h]
    · rw [if_neg h, beq_eq_false_iff_ne.mpr h]
section
variable {prog : Program} {w : World} {A A₀ : Around} {s : Shared} {K : Frag} {L : Addr} {h₀ base : Heap} {m mg mb : Str → Option Value} {p : Program} {loose : List Str} {mean : ExcName → Option Value}
  {env : Env} {outer : List Env} {R : Result → Shared → Prop} {name qual : Str} {params : Arguments} {body : List Stmt} {scope : Scope} {dV kV doc pm cdv ct oc : Value} {an od : Option Addr} {osl : Array (Option Value)} {f : Addr} {args : Args} {binds : List (Str × Value)}

/-- a call whose base is the caller's whole heap: nothing that stood is changed -/
theorem base_plain (B : Below A₀ base outer h₀) (F : Fr h₀ L s.heap m) (X₀ : K.In h₀) (T : Top p loose mean mg mb h₀) (hA : A.frames = some (env :: outer)) (hf : env.frame = some L) (hke : env.scope.kind = .function)
    (ho : K.lookup f = some ⟨oc, od, .func (fnOf name qual params body scope dV kV doc pm an cdv ct), osl⟩) (hcd : codeIn K cdv qual = true) (hroom : A.depth < recursionLimit)
    (hbind : BindsTo s (fnOf name qual params body scope dV kV doc pm an cdv ct) args binds) (hloc : ∀ y ∈ binds, scope.names.lookup y.1 = some .local)
    (h : ∀ L' h₁, Fr s.heap L' h₁ (mapOf binds.reverse) → Below A base (env :: outer) s.heap → K.In s.heap → Top p loose mean mg mb s.heap →
      wpAny (model prog w) (A.deeper (envOf qual scope L' f cdv)) (execs body (envOf qual scope L' f cdv))
        (fun fl s' => R (.ok (.ret (match fl with | .ret v => v | _ => .none))) s')
        (fun e s' => wpAny (model prog w) (A.deeper (envOf qual scope L' f cdv)) (leaving (envOf qual scope L' f cdv) e) (fun _ s'' => R (.error e) s'') (fun e' s'' => R (.error e') s'') s')
        { s with heap := h₁, toks := s.toks + binds.length })
    (hco : scope.isCoroutine = false) (hgen : scope.isGenerator = false) (hk : scope.kind = .function)
    (hcell : ∀ x ∈ scope.names, x.2 ≠ .cell) : codeAny (model prog w) A (.call (.ref f) args) R s := by
  obtain ⟨_, BG, st, _⟩ := groundX (R := R) B F News.nil hA hf hke
  refine codeAny_call_def (fd := fnX name qual params body scope [] dV kV doc pm an cdv ct) (body := body) (binds := binds) hroom ((X₀.keeps F.keep) _ _ ho) rfl (T.nolimit.keeps F.keep) (codeRec_of (X₀.keeps F.keep) hcd) rfl hbind hcell hloc (fun h₁ hns hk₁ => ?_) hco hgen hk
  rw [show (fun x => List.lookup x binds.reverse) = mapOf binds.reverse from funext fun y => lookup_mapOf y _] at hns
  exact h _ h₁ ⟨hns, hk₁, Nat.le_refl _⟩ BG (X₀.keeps F.keep) (T.keeps F.keep)

theorem base_cells (B : Below A₀ base outer h₀) (F : Fr h₀ L s.heap m) (X₀ : K.In h₀) (T : Top p loose mean mg mb h₀) (hA : A.frames = some (env :: outer)) (hf : env.frame = some L) (hke : env.scope.kind = .function)
    (ho : K.lookup f = some ⟨oc, od, .func (fnOf name qual params body scope dV kV doc pm an cdv ct), osl⟩) (hcd : codeIn K cdv qual = true) (hroom : A.depth < recursionLimit)
    (hbind : BindsTo s (fnOf name qual params body scope dV kV doc pm an cdv ct) args binds)
    (hkind : (binds.all fun y => scope.names.lookup y.1 == some .local || scope.names.lookup y.1 == some .cell) = true)
    (hnd : ((cellsFrom 0 scope.names []).map (·.1)).Nodup)
    (h : ∀ L' h₁ tk cells, Fr s.heap L' h₁ (bindL (envOfC qual scope L' f cdv).kindOf binds fun _ => none) → News s.heap L' h₁ cells →
      CellsAre (bindC (envOfC qual scope L' f cdv).kindOf binds fun _ => none) (cellsFrom (L' + 1) scope.names []) cells → Below A base (env :: outer) s.heap → K.In s.heap → Top p loose mean mg mb s.heap →
      wpAny (model prog w) (A.deeper (envOfC qual scope L' f cdv)) (execs body (envOfC qual scope L' f cdv))
        (fun fl s' => R (.ok (.ret (match fl with | .ret v => v | _ => .none))) s')
        (fun e s' => wpAny (model prog w) (A.deeper (envOfC qual scope L' f cdv)) (leaving (envOfC qual scope L' f cdv) e) (fun _ s'' => R (.error e) s'') (fun e' s'' => R (.error e') s'') s')
        { s with heap := h₁, toks := tk })
    (hco : scope.isCoroutine = false) (hgen : scope.isGenerator = false) (hk : scope.kind = .function) : codeAny (model prog w) A (.call (.ref f) args) R s := by
  obtain ⟨_, BG, st, _⟩ := groundX (R := R) B F News.nil hA hf hke
  refine codeAny_call_function hroom ((X₀.keeps F.keep) _ _ ho) rfl hco hgen rfl (codeRec_of (X₀.keeps F.keep) hcd) (hbind _ _ _ _ ?_)
  refine wpAny_newFunctionEnv_cells hk (kindsX hkind _) fun env' he s' x => ?_
  subst he
  refine ⟨(T.nolimit.keeps F.keep).keeps x.toInCall.keep, codeAny_func ?_⟩
  obtain ⟨h₁, tk, rfl, _⟩ := x.done
  have hk₁ := x.toInCall.keep
  obtain ⟨cells, NC, Y⟩ := Cl.news (h₀ := s.heap) (Nat.le_refl _) fun n c hm => ⟨x.cell n c (lookup_of_mem_nodup (cellsFrom_names scope.names 0 (s.heap.objs.size + 1) [] [] rfl ▸ hnd) hm), x.above n c hm⟩
  exact h _ h₁ tk cells ⟨x.toInCall.ns, hk₁, Nat.le_refl _⟩ NC Y BG (X₀.keeps F.keep) (T.keeps F.keep)
end
/-- the surroundings of a contract: some frame above, so much room -/
noncomputable abbrev Ar (d u : Nat) (env : Env) (outer : List Env) : Around := { handled := none, depth := d, frames := some (env :: outer), guards := none, units := u }
theorem at_le {α : Type} {M : Model} {A : Around} {t : Sem α} {Q : α → Shared → Prop} {E : Value → Shared → Prop} {s : Shared} {d u : Nat} {env : Env} {outer : List Env}
    (hh : A.handled = none) (hf : A.frames = some (env :: outer)) (hd : A.depth ≤ d) (hu : A.units ≤ u) (h : wpAny M (Ar d u env outer) t Q E s) : wpAny M A t Q E s :=
  fun Γ p hΓ => h Γ p ⟨hΓ.1.trans hh, Nat.le_trans hΓ.2.1 hd, fun l hl => hΓ.2.2.1 l (hf.trans hl), fun g hg => (by cases hg), Nat.le_trans hΓ.2.2.2.2 hu⟩
noncomputable def Keep (h h' : Heap) : Prop := ∀ b o, h.get? b = some o → h'.get? b = some o
theorem Keep.trans {a b c : Heap} (x : Keep a b) (y : Keep b c) : Keep a c := fun i o e => y i o (x i o e)
theorem Keep.refl {a : Heap} : Keep a a := fun _ _ e => e
theorem fr_keep {h₀ h h' : Heap} {L : Addr} {m : Str → Option Value} (F : Fr h₀ L h m) (k : Keep h h') : Fr h₀ L h' m := Fr.grownK F k
theorem news_keep {h₀ h h' : Heap} {L : Addr} {news : List (Addr × Obj)} (N : News h₀ L h news) (k : Keep h h') : News h₀ L h' news := News.grown N k
theorem news_add {h₀ h h' : Heap} {L a : Addr} {o : Obj} {m : Str → Option Value} {news : List (Addr × Obj)} (F : Fr h₀ L h m) (N : News h₀ L h' news) (hn : h.get? a = none) (ho : h'.get? a = some o) : News h₀ L h' ((a, o) :: news) := by
  intro p hp
  rcases List.mem_cons.mp hp with rfl | hp
  · refine ⟨ho, fun e => ?_, ?_⟩
    · obtain ⟨oL, _, _, hL, _⟩ := F.ns
      subst e
      rw [hL] at hn; cases hn
    · cases q : h₀.get? a with
      | none => rfl
      | some o' => rw [F.keep _ _ q] at hn; cases hn
  · exact N p hp
end Mine
namespace Mine
open PySem PySem.W PySem.Calls PySem.Spec PyProof.Rows
section
variable {prog : Program} {w : World} {A A₀ : Around} {s : Shared} {K : Frag} {L : Addr} {h₀ base : Heap} {m mg mb : Str → Option Value} {p : Program} {loose : List Str} {mean : ExcName → Option Value}
  {env : Env} {outer : List Env} {R : Result → Shared → Prop} {name qual : Str} {params : Arguments} {body : List Stmt} {scope : Scope} {dV kV doc pm cdv ct oc : Value} {an od : Option Addr} {osl : Array (Option Value)} {f : Addr} {args : Args} {binds : List (Str × Value)} {news : List (Addr × Obj)}
/-- a call that may change the objects of a ledger; its base is the caller's heap but these -/
theorem base_news (B : Below A₀ base outer h₀) (F : Fr h₀ L s.heap m) (X₀ : K.In h₀) (N : News h₀ L s.heap news) (T : Top p loose mean mg mb h₀) (hA : A.frames = some (env :: outer)) (hf : env.frame = some L) (hke : env.scope.kind = .function)
    (ho : K.lookup f = some ⟨oc, od, .func (fnOf name qual params body scope dV kV doc pm an cdv ct), osl⟩) (hcd : codeIn K cdv qual = true) (hroom : A.depth < recursionLimit)
    (hbind : BindsTo s (fnOf name qual params body scope dV kV doc pm an cdv ct) args binds) (hloc : ∀ y ∈ binds, scope.names.lookup y.1 = some .local)
    (h : ∀ g L' h₁, (∀ b o, s.heap.get? b = some o → b ∉ news.map (·.1) → g.get? b = some o) → Fr g L' h₁ (mapOf binds.reverse) → News g L' h₁ news → Below A base (env :: outer) g → K.In g → Top p loose mean mg mb g →
      wpAny (model prog w) (A.deeper (envOf qual scope L' f cdv)) (execs body (envOf qual scope L' f cdv))
        (fun fl s' => R (.ok (.ret (match fl with | .ret v => v | _ => .none))) s')
        (fun e s' => wpAny (model prog w) (A.deeper (envOf qual scope L' f cdv)) (leaving (envOf qual scope L' f cdv) e) (fun _ s'' => R (.error e) s'') (fun e' s'' => R (.error e') s'') s')
        { s with heap := h₁, toks := s.toks + binds.length })
    (hco : scope.isCoroutine = false) (hgen : scope.isGenerator = false) (hk : scope.kind = .function)
    (hcell : ∀ x ∈ scope.names, x.2 ≠ .cell) : codeAny (model prog w) A (.call (.ref f) args) R s := by
  obtain ⟨_, BG, st, _⟩ := groundX (R := R) B F N hA hf hke
  have XG := Frag.In.keeps X₀ st
  have TG := T.keeps st
  refine codeAny_call_def (fd := fnX name qual params body scope [] dV kV doc pm an cdv ct) (body := body) (binds := binds) hroom ((X₀.keeps F.keep) _ _ ho) rfl (T.nolimit.keeps F.keep) (codeRec_of (X₀.keeps F.keep) hcd) rfl hbind hcell hloc (fun h₁ hns hk₁ => ?_) hco hgen hk
  rw [show (fun x => List.lookup x binds.reverse) = mapOf binds.reverse from funext fun y => lookup_mapOf y _] at hns
  exact h (hideAll s.heap (news.map (·.1))) _ h₁ (fun b o e hb => hideAll_get _ e hb) ⟨hns, fun b o e => hk₁ b o (of_hideAll _ e), Nat.le_of_eq (hideAll_size _ _)⟩
    (fun p hp => ⟨hk₁ _ _ (N p hp).1, Nat.ne_of_lt (Heap.lt_size (N p hp).1), hideAll_none _ (List.mem_map_of_mem hp)⟩) BG XG TG
end
noncomputable def KeepBut (a : Addr) (h h' : Heap) : Prop := ∀ b o, b ≠ a → h.get? b = some o → h'.get? b = some o
end Mine
namespace Mine
open PySem PySem.W PySem.Calls PySem.Spec PyProof.Rows PySem.Builtin PySem.Builtin.Re

theorem re_slot : Slot "re.Pattern" "search" "re.Pattern.search" :=
  .of (owner := "re.Pattern") (n := "search") (by rw [typeLookup_type, builtinLookup_eq_fast]; kernel_rfl) (by decide +kernel) (by decide +kernel) (by decide +kernel)
    (by first | exact .inl (by decide +kernel) | exact .inr (by decide +kernel)) (by rw [isSubtype_type]; kernel_rfl)
theorem re_type : typeOf (.builtin "re.Pattern.search") = pure (.type "method_descriptor") := by show builtinType _ = _; rw [builtinType_eq_fast]; kernel_rfl
theorem re_entry : entryFor table "re.Pattern.search" = some Builtin.«re.Pattern.search» := entryFor_of_tree (by kernel_rfl)
theorem re_attrs : PlainAttrs "re.Pattern" := ⟨⟨"object.__getattribute__", by rw [typeLookup_type, builtinLookup_eq_fast]; kernel_rfl, by decide +kernel⟩, by rw [typeLookup_type, builtinLookup_eq_fast]; kernel_rfl⟩
theorem re_args (a b : Value) : argsOk "re.Pattern.search" ⟨[a, b], []⟩ := by
  unfold argsOk; kernel_rfl
end Mine
namespace Mine
open PySem PySem.W PySem.Calls PySem.Spec PyProof.Rows PySem.Builtin PySem.Builtin.Re
/-- no sign of the text is in the pattern's set -/
noncomputable def NoSign (code : Array Nat) (x : Str) : Prop := ∀ c ∈ x.cps.toList, ∀ seen, ∃ seen', Sre.inSet code c code.size 5 true seen = .ok (false, seen')

theorem admitted_none {m : Sre.M} (h : ∀ s, s < m.lim → ∀ seen, ∃ seen', Sre.inSet m.code (m.text.getD s 0) m.code.size 5 true seen = .ok (false, seen')) :
    ∀ fuel s seen, ∃ seen', Sre.M.admitted m fuel s seen = .ok (none, seen')
  | 0, s, seen => ⟨seen, rfl⟩
  | fuel + 1, s, seen => by
    unfold Sre.M.admitted
    by_cases hs : s ≥ m.lim
    · exact ⟨seen, by rw [if_pos hs]⟩
    · obtain ⟨seen', e⟩ := h s (by omega) seen
      obtain ⟨seen2, e2⟩ := admitted_none h fuel (s + 1) seen'
      refine ⟨seen2, ?_⟩
      rw [if_neg hs, e]
      exact e2

theorem runFor_fails {m : Sre.M} (ho : m.outcome = none) (ha : m.answer = some false) (hf : m.frames = []) : (Sre.M.runFor 4 m).outcome = some .failed := by
  have e1 : Sre.M.step m = { m with outcome := some .failed } := by
    unfold Sre.M.step
    rw [ho, ha, hf]
    rfl
  unfold Sre.M.runFor
  rw [ho, e1]
  unfold Sre.M.runFor
  rfl

theorem attemptFrom_fails {code : Array Nat} {x : Str} (h14 : code.getD 0 0 = 14) (h4 : code.getD 2 0 = 4) (hn : NoSign code x) (m : Sre.M) (hc : m.code = code) (ht : m.text = x.cps) (hl : m.lim = x.cps.size)
    (ho : m.outcome = none) (hf : m.frames = []) : (Sre.M.runFor 4 (m.attemptFrom 0 true)).outcome = some .failed := by
  have hs : Sre.M.hasFirstSet m = true := by
    unfold Sre.M.hasFirstSet
    rw [hc, h14, h4]
    rfl
  obtain ⟨seen', e⟩ := admitted_none (m := m) (fun s hs seen => by
      rw [hc, ht]
      have hlt : s < x.cps.size := by omega
      have : x.cps.getD s 0 ∈ x.cps.toList := by
        rw [Array.getD_eq_getD_getElem?, Array.getElem?_eq_getElem hlt]
        simp
      exact hn _ this seen) (m.lim + 1 - 0) 0 m.seen
  unfold Sre.M.attemptFrom
  rw [hs, e]
  simp only [Bool.not_true, Bool.false_eq_true, if_false]
  exact runFor_fails ho rfl hf
theorem forSearch_fails {code : Array Nat} {x : Str} (h14 : code.getD 0 0 = 14) (h4 : code.getD 2 0 = 4) (hn : NoSign code x) (gr : Nat) :
    (Sre.M.runFor 4 (Sre.forSearch code x.cps gr 0 x.cps.size false)).outcome = some .failed := by
  unfold Sre.forSearch
  dsimp only
  split
  · exact runFor_fails rfl rfl rfl
  · exact attemptFrom_fails h14 h4 hn _ rfl rfl rfl rfl rfl

section
variable {prog : Program} {w : World} {A : Around} {E : Value → Shared → Prop} {s : Shared}
theorem wp_rules {l : List Nat} {f : Nat → PUnit → Sem (ForInStep PUnit)} (hf : ∀ i u, (∃ t, f i u = (do rule t; pure (.yield ⟨⟩))) ∨ f i u = pure (.yield ⟨⟩)) {M : Model} {Q : PUnit → Shared → Prop} (h : Q ⟨⟩ s) :
    wpAny M A (forIn l ⟨⟩ f) Q E s := by
  refine wpAny_forIn_list f (fun _ _ s' => s' = s) Q ?_ (fun b s' e => by subst e; exact h) l ⟨⟩ rfl
  intro x rest b s' e
  subst e
  rcases hf x b with ⟨t, e⟩ | e
  · rw [e]; exact wpAny_bind (wpAny_rule (wpAny_pure rfl))
  · rw [e]; exact wpAny_pure rfl

theorem wp_reRun {m : Sre.M} {Q : Option Sre.M → Shared → Prop} (hm : (Sre.M.runFor 4 m).outcome = some .failed) (h : Q none s) : wpAny (model prog w) A (reRunToEnd m) Q E s := by
  unfold reRunToEnd
  refine wpAny_bind ?_
  rw [show (2 ^ 64 : Nat) = (2 ^ 64 - 1) + 1 from by decide]
  unfold reDrive
  dsimp only [reTurnSteps]
  rw [hm]
  simp only [Option.isSome_some, if_true]
  refine wpAny_pure ?_
  refine wpAny_bind (wp_rules (fun i u => ?_) ?_)
  · split
    · exact .inl ⟨_, rfl⟩
    · exact .inr rfl
  · rw [hm]
    exact wpAny_pure h

theorem call_search {a c : Addr} {x : Str} {t : Tok} {pat fl g1 g2 : Value} {gt k0 : Tok} {items : Array Value} {code : Array Nat} {n : Nat} {Q : Value → Shared → Prop}
    (ha : s.heap.get? a = some ⟨.type "re.Pattern", none, .fields #[pat, fl, .int 0 gt, g1, g2, .ref c, .int 0 k0], #[]⟩)
    (hc : s.heap.get? c = some ⟨.type "tuple", none, .seq items n, #[]⟩) (hcode : (items.map reRawOf).map (·.toNat) = code)
    (h14 : code.getD 0 0 = 14) (h4 : code.getD 2 0 = 4) (hn : NoSign code x) (hx : x.cps.size ≤ 1048576) (h : Q .none s) :
    wpAny (model prog w) A (call (.builtin "re.Pattern.search") [.ref a, .str x t]) Q E s := by
  refine wpAny_call (codeAny_call_builtin re_slot.plain re_entry (re_slot.check _ _ _ _ _ _ _ _ ⟨_, ha, rfl⟩ (re_args _ _) ?_))
  unfold Builtin.«re.Pattern.search»
  refine wpAny_bind ?_
  unfold reTarget
  dsimp only
  refine wpAny_bind (wpAny_of_eq (a := [some (.str x t), none, none]) (by kernel_rfl) ?_)
  dsimp only
  refine wpAny_bind (wpAny_pure (wpAny_bind (wpAny_pure ?_)))
  refine wpAny_bind (wpAny_fieldsOf ha rfl ?_)
  refine wpAny_bind (wpAny_of_eq (a := (x.cps, 0)) rfl ?_)
  dsimp only
  rw [if_neg (by simp), if_neg (by simp [reRawNat])]
  refine wpAny_bind (wpAny_of_eq (a := ()) rfl ?_)
  refine wpAny_bind ?_
  show wpAny _ _ (reRawItems (.ref c)) _ _ _
  unfold reRawItems
  refine wpAny_bind (wpAny_seqItems hc rfl ?_)
  refine wpAny_pure (wpAny_pure ?_)
  unfold reAnswer
  refine wpAny_bind ?_
  have hl : min ((2 : Int) ^ 63 - 1).toNat x.cps.size = x.cps.size := Nat.min_eq_right (by have : ((2 : Int) ^ 63 - 1).toNat = 9223372036854775807 := by decide
                                                                                           omega)
  have hp : min (Int.toNat 0) x.cps.size = 0 := Nat.min_eq_left (Nat.zero_le _)
  dsimp only [Option.getD_some]
  rw [hl, hp, hcode]
  refine wp_reRun (forSearch_fails h14 h4 hn _) ?_
  exact wpAny_pure h
end
end Mine
namespace Mine
open PySem PySem.W PySem.Calls PySem.Spec PyProof.Rows PySem.Builtin PySem.Builtin.Re
noncomputable def Fine (x : Str) : Prop := ∀ c ∈ x.cps.toList, 32 ≤ c ∧ c ≤ 126
noncomputable abbrev nameCode : Array Nat := #[14, 10, 4, 1, 1, 22, 0, 31, 16, 127, 0, 13, 7, 22, 0, 31, 16, 127, 0, 1]
noncomputable abbrev valCode : Array Nat := #[14, 14, 4, 1, 1, 9, 4294966783, 0, 0, 2147483648, 0, 0, 0, 0, 0, 13, 11, 9, 4294966783, 0, 0, 2147483648, 0, 0, 0, 0, 0, 1]
theorem noSign_name {x : Str} (h : Fine x) : NoSign nameCode x := by
  intro c hc seen
  obtain ⟨h1, h2⟩ := h c hc
  have e1 : (decide (c ≤ 31)) = false := decide_eq_false (by omega)
  have e2 : (c == 127) = false := beq_eq_false_iff_ne.mpr (by omega)
  refine ⟨((seen.add 22).add 16).add 0, ?_⟩
  show Sre.inSet nameCode c 20 5 true seen = _
  unfold Sre.inSet
  show (if decide (0 ≤ c) && decide (c ≤ 31) then _ else Sre.inSet nameCode c 19 8 true (seen.add 22)) = _
  rw [e1, Bool.and_false]
  simp only [Bool.false_eq_true, if_false]
  unfold Sre.inSet
  show (if (c == 127) = true then _ else Sre.inSet nameCode c 18 10 true ((seen.add 22).add 16)) = _
  rw [e2]
  simp only [Bool.false_eq_true, if_false]
  unfold Sre.inSet
  rfl
theorem val_bits : ∀ c : Fin 127, 32 ≤ c.1 → (valCode.getD (5 + (1 + c.1 / 32)) 0).testBit (c.1 % 32) = false := by decide +kernel
theorem noSign_val {x : Str} (h : Fine x) : NoSign valCode x := by
  intro c hc seen
  obtain ⟨h1, h2⟩ := h c hc
  have e1 := val_bits ⟨c, by omega⟩ h1
  refine ⟨(seen.add 9).add 0, ?_⟩
  show Sre.inSet valCode c 28 5 true seen = _
  unfold Sre.inSet
  show (if (decide (c < 256) && (valCode.getD (5 + (1 + c / 32)) 0).testBit (c % 32)) = true then _ else Sre.inSet valCode c 27 14 true (seen.add 9)) = _
  rw [e1, Bool.and_false]
  simp only [Bool.false_eq_true, if_false]
  unfold Sre.inSet
  rfl
end Mine
namespace Mine
open PySem PySem.W PySem.Calls PySem.Spec PyProof.Rows
section
variable {prog : Program} {w : World} {A : Around} {E : Value → Shared → Prop} {Q : Flow → Shared → Prop} {s : Shared} {env : Env} {h₀ : Heap} {L : Addr}

/-- a turn's end -/
noncomputable def TurnEnd (h₀ : Heap) (L : Addr) (s : Shared) (I : Addr) (oI : Obj) (J : (Str → Option Value) → List (Addr × Obj) → Prop) (Q : Flow → Shared → Prop) (f : Flow) (s₃ : Shared) : Prop :=
  match f with
  | .next => ∃ h' tk m₂ news₂, s₃ = { s with heap := h', toks := tk } ∧ Fr h₀ L h' m₂ ∧ News h₀ L h' ((I, oI) :: news₂) ∧ (∀ p ∈ news₂, p.1 ≠ I) ∧ J m₂ news₂
  | .cont => ∃ h' tk m₂ news₂, s₃ = { s with heap := h', toks := tk } ∧ Fr h₀ L h' m₂ ∧ News h₀ L h' ((I, oI) :: news₂) ∧ (∀ p ∈ news₂, p.1 ≠ I) ∧ J m₂ news₂
  | .brk => Q .next s₃
  | .ret v => Q (.ret v) s₃

noncomputable def GoOk (prog : Program) (w : World) (A : Around) (target : Expr) (vs : Array Value) : Prop :=
  ∀ (I l : Addr) (i : Nat) (v : Value) (s : Shared) (Q : Unit → Shared → Prop) (E : Value → Shared → Prop), v ∈ vs.toList → s.heap.IsListIter I l i → Q () s → wpAny (model prog w) A (letOwnedTupleGo target (.ref I) v) Q E s
theorem go_name {x : Str} {p : Pos} {vs : Array Value} : GoOk prog w A (.Name x p) vs := fun _ _ _ _ _ _ _ _ _ h => wpAny_pure h
theorem go_tuple {es : List Expr} {k : Nat} {p : Pos} {vs : Array Value} (h : ∀ v ∈ vs.toList, ∃ a, v = .ref a) : GoOk prog w A (.Tuple es k p) vs := fun I l i v s Q E hv hi hQ => by
  obtain ⟨a, rfl⟩ := h v hv
  exact wpAny_letOwnedTupleGo_listiter hi hQ

/-- what a list's loop wants behind its iterable -/
noncomputable def ListIn (prog : Program) (w : World) (A : Around) (E : Value → Shared → Prop) (Q : Flow → Shared → Prop) (env : Env) (h₀ : Heap) (L : Addr) (target : Expr) (body : List Stmt) (xv : Value) (s₁ : Shared) : Prop :=
  ∃ l items m news, xv = .ref l ∧ Fr h₀ L s₁.heap m ∧ News h₀ L s₁.heap news ∧ s₁.heap.IsList l items ∧ GoOk prog w A target items ∧
      ∃ J : Nat → (Str → Option Value) → List (Addr × Obj) → Prop, J 0 m news ∧ (∀ i m₁ news₁ h₁, J i m₁ news₁ → Fr h₀ L h₁ m₁ → News h₀ L h₁ news₁ → h₁.IsList l items) ∧
      (∀ i v m₁ news₁ h₁ tk₁ I oI, items[i]? = some v → J i m₁ news₁ → Fr h₀ L h₁ m₁ → News h₀ L h₁ ((I, oI) :: news₁) → (∀ p ∈ news₁, p.1 ≠ I) →
        wpAny (model prog w) A (assign target env v) (fun _ s₂ => wpAny (model prog w) A (execs body env) (TurnEnd h₀ L s₁ I oI (J (i + 1)) Q) E s₂) E { s₁ with heap := h₁, toks := tk₁ }) ∧
      (∀ m₁ news₁ h₁ tk₁, J items.size m₁ news₁ → Fr h₀ L h₁ m₁ → News h₀ L h₁ news₁ → Q .next { s₁ with heap := h₁, toks := tk₁ })

theorem For_list {target iter : Expr} {body : List Stmt} {pos : Pos} (h₀ : Heap) (L : Addr) (hh : A.handled = none)
    (h : wpAny (model prog w) A (eval iter env) (ListIn prog w A E Q env h₀ L target body) E s)
    (hs : ∀ x, foldedSetIterable iter env x = pure x := by intro _; rfl)
    (hE : PassesOwn (model prog w) A env E := by passes_own) :
    wpAny (model prog w) A (exec (.For target iter body [] pos) env) Q E s := by
  refine wpAny_For (wpAny_mono h (fun xv s₁ h₁ => ?_) fun _ _ e => e) hs
  obtain ⟨l, items, m, news, rfl, F, N, hl, hgo, J, hJ, hkeep, turn, done⟩ := h₁
  refine wpAny_pyIter_list hl ?_
  have hIL : ∀ p ∈ news, p.1 ≠ s₁.heap.objs.size := fun p hp => Nat.ne_of_lt (Heap.lt_size (N p hp).1)
  have hlI : l ≠ s₁.heap.objs.size := by
    obtain ⟨o, ho, _⟩ := hl
    exact Nat.ne_of_lt (Heap.lt_size ho)
  have hn0 : h₀.get? s₁.heap.objs.size = none := by
    cases q : h₀.get? s₁.heap.objs.size with
    | none => rfl
    | some o => exact absurd (Heap.lt_size (F.keep _ _ q)) (Nat.lt_irrefl _)
  have hLI : L ≠ s₁.heap.objs.size := by
    obtain ⟨oL, _, _, hL, _⟩ := F.ns
    exact Nat.ne_of_lt (Heap.lt_size hL)
  have F' := F.push { cls := .type "list_iterator", data := .fields #[.ref l, .int 0 0] }
  have N' : News h₀ L (s₁.heap.push { cls := .type "list_iterator", data := .fields #[.ref l, .int 0 0] }) news := fun p hp => ⟨Heap.get?_push_of_some _ (N p hp).1, (N p hp).2⟩
  have hI : (s₁.heap.push { cls := .type "list_iterator", data := .fields #[.ref l, .int 0 0] }).IsListIter s₁.heap.objs.size l 0 := ⟨_, Heap.get?_push_size _ rfl, rfl, rfl⟩
  generalize s₁.heap.push { cls := .type "list_iterator", data := .fields #[.ref l, .int 0 0] } = hp at F' N' hI
  generalize s₁.heap.objs.size = I at *
  refine codeAny_forLoop_any (fun k s' => ∃ h' tk m' news' i, s' = { s₁ with heap := h', toks := tk } ∧ h'.IsListIter I l i ∧ Fr h₀ L h' m' ∧ News h₀ L h' news' ∧ (∀ p ∈ news', p.1 ≠ I) ∧ J i m' news' ∧ i ≤ items.size ∧ k = items.size + 1 - i) ?_ (items.size + 1)
    ⟨hp, s₁.toks, m, news, 0, rfl, hI, F', N', hIL, hJ, Nat.zero_le _, rfl⟩
  rintro k s' ⟨h', tk, m', news', i, rfl, hI', F₁, N₁, hn₁, hJ₁, hi, rfl⟩
  have hl' := hkeep i m' news' h' hJ₁ F₁ N₁
  by_cases hlt : i < items.size
  · have hx : items[i]? = some items[i] := by simp [hlt]
    refine wpAny_pyNext_list_item hI' hl' hx fun h₂ hI₂ hs₂ => ?_
    refine hgo I l (i + 1) _ _ _ _ (by simp) hI₂ ?_
    have F₂ : Fr h₀ L h₂ m' := ⟨F₁.ns.sameBut hs₂ hLI, fun b o e => (hs₂.2 b (fun q => by rw [q, hn0] at e; cases e)).trans (F₁.keep b o e), F₁.above⟩
    have N₂ : News h₀ L h₂ news' := fun p hp => ⟨(hs₂.2 p.1 (hn₁ p hp)).trans (N₁ p hp).1, (N₁ p hp).2⟩
    obtain ⟨oI, hoI, hcI, hdI⟩ := id hI₂
    have N₃ : News h₀ L h₂ ((I, oI) :: news') := by
      intro p hp
      rcases List.mem_cons.mp hp with rfl | hp
      · exact ⟨hoI, fun e => hLI e.symm, hn0⟩
      · exact N₂ p hp
    refine wpAny_mono (wpAny_passesOwn hE (turn i _ m' news' h₂ tk I oI hx hJ₁ F₂ N₃ hn₁)) (fun _ s₂ h₂ => ?_) fun _ _ e => e
    refine wpAny_mono (wpAny_passesOwn hE h₂) (fun f s₃ h₃ => ?_) fun _ _ e => e
    have fin : (∃ h' tk m₂ news₂, s₃ = { s₁ with heap := h', toks := tk } ∧ Fr h₀ L h' m₂ ∧ News h₀ L h' ((I, oI) :: news₂) ∧ (∀ p ∈ news₂, p.1 ≠ I) ∧ J (i + 1) m₂ news₂) →
        ∃ m, m < items.size + 1 - i ∧ ∃ h' tk m' news' i, s₃ = { s₁ with heap := h', toks := tk } ∧ h'.IsListIter I l i ∧ Fr h₀ L h' m' ∧ News h₀ L h' news' ∧ (∀ p ∈ news', p.1 ≠ I) ∧ J i m' news' ∧ i ≤ items.size ∧ m = items.size + 1 - i := by
      rintro ⟨h3, tk3, m3, news3, rfl, F3, N3, hn3, J3⟩
      refine ⟨items.size + 1 - (i + 1), by omega, h3, tk3, m3, news3, i + 1, rfl, ⟨oI, (N3 _ (.head _)).1, hcI, hdI⟩, F3, fun p hp => N3 p (.tail _ hp), hn3, J3, hlt, rfl⟩
    cases f with
    | next => exact fin h₃
    | cont => exact fin h₃
    | brk => exact h₃
    | ret v => exact h₃
  · have hin : i = items.size := by omega
    subst hin
    refine wpAny_pyNext_list_end hh hI' hl' (by simp) fun h₂ hs₂ => ?_
    refine wpAny_execs_nil ?_
    exact done m' news' h₂ tk hJ₁ ⟨F₁.ns.at' fun o e => hs₂ _ o hLI e, fun b o e => hs₂ b o (fun q => by rw [q, hn0] at e; cases e) (F₁.keep b o e), F₁.above⟩ fun p hp => ⟨hs₂ _ _ (hn₁ p hp) (N₁ p hp).1, (N₁ p hp).2⟩

theorem go_any {x : Str} {p : Pos} {it v : Value} {Q : Unit → Shared → Prop} (h : Q () s) : wpAny (model prog w) A (letOwnedTupleGo (.Name x p) it v) Q E s := wpAny_pure h

/-- what a range's loop wants behind its iterable -/
noncomputable def RangeIn (prog : Program) (w : World) (A : Around) (E : Value → Shared → Prop) (Q : Flow → Shared → Prop) (env : Env) (h₀ : Heap) (L : Addr) (target : Expr) (body : List Stmt) (xv : Value) (s₁ : Shared) : Prop :=
  ∃ r a b t u v m news, xv = .ref r ∧ IsRange s₁.heap r a b 1 t u v ∧ (-(2 ^ 62) ≤ a ∧ a < 2 ^ 62 ∧ -(2 ^ 62) ≤ b ∧ b < 2 ^ 62) ∧ Fr h₀ L s₁.heap m ∧ News h₀ L s₁.heap news ∧
      ∃ J : Nat → (Str → Option Value) → List (Addr × Obj) → Prop, J 0 m news ∧
      (∀ i tv m₁ news₁ h₁ tk₁ I oI, i < (b - a).toNat → J i m₁ news₁ → Fr h₀ L h₁ m₁ → News h₀ L h₁ ((I, oI) :: news₁) → (∀ p ∈ news₁, p.1 ≠ I) →
        wpAny (model prog w) A (assign target env (.int (a + (i : Int)) tv)) (fun _ s₂ => wpAny (model prog w) A (execs body env) (TurnEnd h₀ L s₁ I oI (J (i + 1)) Q) E s₂) E { s₁ with heap := h₁, toks := tk₁ }) ∧
      (∀ m₁ news₁ h₁ tk₁, J (b - a).toNat m₁ news₁ → Fr h₀ L h₁ m₁ → News h₀ L h₁ news₁ → Q .next { s₁ with heap := h₁, toks := tk₁ })

theorem For_range {x : Str} {px : Pos} {iter : Expr} {body : List Stmt} {pos : Pos} (h₀ : Heap) (L : Addr) (hh : A.handled = none)
    (h : wpAny (model prog w) A (eval iter env) (RangeIn prog w A E Q env h₀ L (.Name x px) body) E s)
    (hs : ∀ x, foldedSetIterable iter env x = pure x := by intro _; rfl)
    (hE : PassesOwn (model prog w) A env E := by passes_own) :
    wpAny (model prog w) A (exec (.For (.Name x px) iter body [] pos) env) Q E s := by
  refine wpAny_For (wpAny_mono h (fun xv s₁ h₁ => ?_) fun _ _ e => e) hs
  obtain ⟨r, a, b, t, u, v, m, news, rfl, hr, ⟨ha, ha', hb, hb'⟩, F, N, J, hJ, turn, done⟩ := h₁
  refine wpAny_pyIter_range hr (small_one ha ha' hb hb') ?_
  have hsz : Builtin.Range.rangeSize a b 1 = ((b - a).toNat : Int) := by rw [rangeSize_one]; split <;> omega
  rw [hsz]
  generalize (b - a).toNat = n at *
  have hIL : ∀ p ∈ news, p.1 ≠ s₁.heap.objs.size := fun p hp => Nat.ne_of_lt (Heap.lt_size (N p hp).1)
  have hn0 : h₀.get? s₁.heap.objs.size = none := by
    cases q : h₀.get? s₁.heap.objs.size with
    | none => rfl
    | some o => exact absurd (Heap.lt_size (F.keep _ _ q)) (Nat.lt_irrefl _)
  have hLI : L ≠ s₁.heap.objs.size := by
    obtain ⟨oL, _, _, hL, _⟩ := F.ns
    exact Nat.ne_of_lt (Heap.lt_size hL)
  have F' := F.push { cls := .type "range_iterator", data := .fields #[rawInt a, rawInt (n : Int), rawInt 1] }
  have N' : News h₀ L (s₁.heap.push { cls := .type "range_iterator", data := .fields #[rawInt a, rawInt (n : Int), rawInt 1] }) news := fun p hp => ⟨Heap.get?_push_of_some _ (N p hp).1, (N p hp).2⟩
  have hI : IsRangeIter (s₁.heap.push { cls := .type "range_iterator", data := .fields #[rawInt a, rawInt (n : Int), rawInt 1] }) s₁.heap.objs.size (a + ((0 : Nat) : Int)) ((n : Int) - ((0 : Nat) : Int)) 1 := by
    simp only [Int.natCast_zero, Int.add_zero, Int.sub_zero]
    exact Heap.get?_push_size _ rfl
  generalize s₁.heap.push { cls := .type "range_iterator", data := .fields #[rawInt a, rawInt (n : Int), rawInt 1] } = hp at F' N' hI
  generalize s₁.heap.objs.size = I at *
  refine codeAny_forLoop_any (fun k s' => ∃ h' tk m' news' i, s' = { s₁ with heap := h', toks := tk } ∧ IsRangeIter h' I (a + ((i : Nat) : Int)) ((n : Int) - ((i : Nat) : Int)) 1 ∧ Fr h₀ L h' m' ∧ News h₀ L h' news' ∧ (∀ p ∈ news', p.1 ≠ I) ∧ J i m' news' ∧ i ≤ n ∧ k = n + 1 - i) ?_ (n + 1)
    ⟨hp, s₁.toks, m, news, 0, rfl, hI, F', N', hIL, hJ, Nat.zero_le _, rfl⟩
  rintro k s' ⟨h', tk, m', news', i, rfl, hI', F₁, N₁, hn₁, hJ₁, hi, rfl⟩
  by_cases hlt : i < n
  · refine wpAny_pyNext_range_item hI' (by omega) fun h₂ hI₂ hs₂ => ?_
    refine go_any ?_
    have F₂ : Fr h₀ L h₂ m' := ⟨F₁.ns.sameBut hs₂ hLI, fun b o e => (hs₂.2 b (fun q => by rw [q, hn0] at e; cases e)).trans (F₁.keep b o e), F₁.above⟩
    have N₂ : News h₀ L h₂ news' := fun p hp => ⟨(hs₂.2 p.1 (hn₁ p hp)).trans (N₁ p hp).1, (N₁ p hp).2⟩
    have e1 : a + (i : Int) + 1 = a + ((i + 1 : Nat) : Int) := by omega
    have e2 : (n : Int) - (i : Int) - 1 = (n : Int) - ((i + 1 : Nat) : Int) := by omega
    rw [e1, e2] at hI₂
    obtain ⟨oI, hoI, hback⟩ : ∃ oI : Obj, h₂.get? I = some oI ∧ ∀ h' : Heap, h'.get? I = some oI → IsRangeIter h' I (a + ((i + 1 : Nat) : Int)) ((n : Int) - ((i + 1 : Nat) : Int)) 1 := ⟨_, hI₂, fun _ e => e⟩
    have N₃ : News h₀ L h₂ ((I, oI) :: news') := by
      intro p hp
      rcases List.mem_cons.mp hp with rfl | hp
      · exact ⟨hoI, fun e => hLI e.symm, hn0⟩
      · exact N₂ p hp
    refine wpAny_mono (wpAny_passesOwn hE (turn i _ m' news' h₂ (tk + 1) I oI hlt hJ₁ F₂ N₃ hn₁)) (fun _ s₂ h₂ => ?_) fun _ _ e => e
    refine wpAny_mono (wpAny_passesOwn hE h₂) (fun f s₃ h₃ => ?_) fun _ _ e => e
    have fin : (∃ h' tk m₂ news₂, s₃ = { s₁ with heap := h', toks := tk } ∧ Fr h₀ L h' m₂ ∧ News h₀ L h' ((I, oI) :: news₂) ∧ (∀ p ∈ news₂, p.1 ≠ I) ∧ J (i + 1) m₂ news₂) →
        ∃ m, m < n + 1 - i ∧ ∃ h' tk m' news' i, s₃ = { s₁ with heap := h', toks := tk } ∧ IsRangeIter h' I (a + ((i : Nat) : Int)) ((n : Int) - ((i : Nat) : Int)) 1 ∧ Fr h₀ L h' m' ∧ News h₀ L h' news' ∧ (∀ p ∈ news', p.1 ≠ I) ∧ J i m' news' ∧ i ≤ n ∧ m = n + 1 - i := by
      rintro ⟨h3, tk3, m3, news3, rfl, F3, N3, hn3, J3⟩
      exact ⟨n + 1 - (i + 1), by omega, h3, tk3, m3, news3, i + 1, rfl, hback _ (N3 _ (.head _)).1, F3, fun p hp => N3 p (.tail _ hp), hn3, J3, hlt, rfl⟩
    cases f with
    | next => exact fin h₃
    | cont => exact fin h₃
    | brk => exact h₃
    | ret v => exact h₃
  · have hin : i = n := by omega
    subst hin
    refine wpAny_pyNext_range_end hh hI' (by omega) fun h₂ hs₂ => ?_
    refine wpAny_execs_nil ?_
    exact done m' news' h₂ tk hJ₁ ⟨F₁.ns.at' fun o e => hs₂ _ o hLI e, fun b o e => hs₂ b o (fun q => by rw [q, hn0] at e; cases e) (F₁.keep b o e), F₁.above⟩ fun p hp => ⟨hs₂ _ _ (hn₁ p hp) (N₁ p hp).1, (N₁ p hp).2⟩

theorem list_pack {target : Expr} {body : List Stmt} {s₁ : Shared} {l : Addr} {items : Array Value} {m : Str → Option Value} {news : List (Addr × Obj)} (J : (Str → Option Value) → List (Addr × Obj) → Nat → (Str → Option Value) → List (Addr × Obj) → Prop)
    (F : Fr h₀ L s₁.heap m) (N : News h₀ L s₁.heap news) (hl : s₁.heap.IsList l items) (hgo : GoOk prog w A target items) (hJ : J m news 0 m news)
    (hkeep : ∀ i m₁ news₁ h₁, J m news i m₁ news₁ → Fr h₀ L h₁ m₁ → News h₀ L h₁ news₁ → h₁.IsList l items)
    (turn : ∀ i v m₁ news₁ h₁ tk₁ I oI, items[i]? = some v → J m news i m₁ news₁ → Fr h₀ L h₁ m₁ → News h₀ L h₁ ((I, oI) :: news₁) → (∀ p ∈ news₁, p.1 ≠ I) →
        wpAny (model prog w) A (assign target env v) (fun _ s₂ => wpAny (model prog w) A (execs body env) (TurnEnd h₀ L s₁ I oI (J m news (i + 1)) Q) E s₂) E { s₁ with heap := h₁, toks := tk₁ })
    (done : ∀ m₁ news₁ h₁ tk₁, J m news items.size m₁ news₁ → Fr h₀ L h₁ m₁ → News h₀ L h₁ news₁ → Q .next { s₁ with heap := h₁, toks := tk₁ }) :
    ListIn prog w A E Q env h₀ L target body (.ref l) s₁ :=
  ⟨l, items, m, news, rfl, F, N, hl, hgo, J m news, hJ, hkeep, turn, done⟩
theorem range_pack {target : Expr} {body : List Stmt} {s₁ : Shared} {r : Addr} {a b : Int} {t u v : Tok} {m : Str → Option Value} {news : List (Addr × Obj)} (J : (Str → Option Value) → List (Addr × Obj) → Nat → (Str → Option Value) → List (Addr × Obj) → Prop)
    (hr : IsRange s₁.heap r a b 1 t u v) (ha : -(2 ^ 62) ≤ a) (ha' : a < 2 ^ 62) (hb : -(2 ^ 62) ≤ b) (hb' : b < 2 ^ 62) (F : Fr h₀ L s₁.heap m) (N : News h₀ L s₁.heap news) (hJ : J m news 0 m news)
    (turn : ∀ i tv m₁ news₁ h₁ tk₁ I oI, i < (b - a).toNat → J m news i m₁ news₁ → Fr h₀ L h₁ m₁ → News h₀ L h₁ ((I, oI) :: news₁) → (∀ p ∈ news₁, p.1 ≠ I) →
        wpAny (model prog w) A (assign target env (.int (a + (i : Int)) tv)) (fun _ s₂ => wpAny (model prog w) A (execs body env) (TurnEnd h₀ L s₁ I oI (J m news (i + 1)) Q) E s₂) E { s₁ with heap := h₁, toks := tk₁ })
    (done : ∀ m₁ news₁ h₁ tk₁, J m news (b - a).toNat m₁ news₁ → Fr h₀ L h₁ m₁ → News h₀ L h₁ news₁ → Q .next { s₁ with heap := h₁, toks := tk₁ }) :
    RangeIn prog w A E Q env h₀ L target body (.ref r) s₁ :=
  ⟨r, a, b, t, u, v, m, news, rfl, hr, ⟨ha, ha', hb, hb'⟩, F, N, J m news, hJ, turn, done⟩
/-- a map that parts from another at two names at most -/
noncomputable def But2 (a b : Str) (m m' : Str → Option Value) : Prop := ∃ u v, m' = fun z => if z = b then v else if z = a then u else m z
theorem But2.refl {a b : Str} {m : Str → Option Value} : But2 a b m m := ⟨m a, m b, by
  funext z
  by_cases h : z = b
  · rw [if_pos h, h]
  · rw [if_neg h]
    by_cases h' : z = a
    · rw [if_pos h', h']
    · rw [if_neg h']⟩
theorem But2.put {a b : Str} {m m' : Str → Option Value} {x y : Value} (h : But2 a b m m') : (fun z => if z = b then some y else if z = a then some x else m' z) = fun z => if z = b then some y else if z = a then some x else m z := by
  obtain ⟨u, v, rfl⟩ := h
  funext z
  by_cases h : z = b <;> by_cases h' : z = a <;> simp [h, h']
end
end Mine
namespace Mine
open PySem PySem.W PySem.Calls PySem.Spec PyProof.Rows
/-- a map that parts from m at these names at most -/
noncomputable def over (names : List Str) (f m : Str → Option Value) : Str → Option Value := fun z => if names.contains z = true then f z else m z
theorem over_refl {names : List Str} {m : Str → Option Value} : ∃ f, m = over names f m := ⟨m, by funext z; unfold over; split <;> rfl⟩
theorem over_of {names : List Str} {m m' : Str → Option Value} (h : ∀ z, names.contains z = false → m' z = m z) : ∃ f, m' = over names f m := ⟨m', by
  funext z
  unfold over
  split
  · rfl
  · rename_i hz
    exact h z (by simpa using hz)⟩
theorem over_off {names : List Str} {f m : Str → Option Value} {z : Str} (h : names.contains z = false) : over names f m z = m z := by
  unfold over
  rw [h]
  rfl
end Mine
namespace Mine
open PySem PySem.W PySem.Calls PySem.Spec PyProof.Rows
section
variable {prog : Program} {w : World} {A : Around} {E : Value → Shared → Prop} {Q : Flow → Shared → Prop} {s : Shared} {env : Env} {h₀ : Heap} {L : Addr} {m : Str → Option Value}
theorem For_rangeF {x : Str} {px : Pos} {iter : Expr} {body : List Stmt} {pos : Pos} (_F : Fr h₀ L s.heap m) (hh : A.handled = none)
    (h : wpAny (model prog w) A (eval iter env) (RangeIn prog w A E Q env h₀ L (.Name x px) body) E s)
    (hs : ∀ x, foldedSetIterable iter env x = pure x := by intro _; rfl)
    (hE : PassesOwn (model prog w) A env E := by passes_own) :
    wpAny (model prog w) A (exec (.For (.Name x px) iter body [] pos) env) Q E s := For_range h₀ L hh h hs hE
end
/-- a table's part of the ledger -/
noncomputable abbrev tabL (C : Addr) (P : Params) (x d l : Addr) (tk0 : Tok) (nL : Nat) (tups : List (Addr × Obj)) : List (Addr × Obj) :=
  (x, instObj C d) :: (d, dictOf [{ hash := PyData.keyHash P (Str.ofString "_headers"), key := .str (Str.ofString "_headers") tk0, val := .ref l }] 1) :: (l, { cls := .type "list", data := .seq (tups.map fun p => Value.ref p.1).toArray nL }) :: tups
noncomputable def TupsOf : List (Addr × Obj) → List (Str × Str) → Prop
  | [], [] => True
  | p :: ps, e :: es => (∃ ta tb, p.2 = { cls := .type "tuple", data := .seq [.str e.1 ta, .str e.2 tb].toArray }) ∧ TupsOf ps es
  | _, _ => False
theorem TupsOf.length : ∀ {ps : List (Addr × Obj)} {es : List (Str × Str)}, TupsOf ps es → ps.length = es.length
  | [], [], _ => rfl
  | _ :: _, _ :: _, ⟨_, t⟩ => by rw [List.length_cons, List.length_cons, TupsOf.length t]
theorem TupsOf.snoc {a : Addr} {x y : Str} {ta tb : Tok} : ∀ {ps : List (Addr × Obj)} {es : List (Str × Str)}, TupsOf ps es → TupsOf (ps ++ [(a, { cls := .type "tuple", data := .seq [.str x ta, .str y tb].toArray })]) (es ++ [(x, y)])
  | [], [], _ => ⟨⟨ta, tb, rfl⟩, trivial⟩
  | _ :: _, _ :: _, ⟨h, t⟩ => ⟨h, TupsOf.snoc t⟩
end Mine

namespace Mine
open PySem PySem.W PySem.Calls PySem.Spec PyProof.Rows
section
variable {prog : Program} {w : World} {A : Around} {E : Value → Shared → Prop} {Q : Flow → Shared → Prop} {s : Shared} {env : Env} {h₀ : Heap} {L : Addr} {m : Str → Option Value} {news : List (Addr × Obj)}
noncomputable def WhileIn (prog : Program) (w : World) (A : Around) (E : Value → Shared → Prop) (Q : Flow → Shared → Prop) (env : Env) (h₀ : Heap) (L : Addr) (test : Expr) (body : List Stmt) (s : Shared) : Prop :=
  ∃ m news n₀ J, Fr h₀ L s.heap m ∧ News h₀ L s.heap news ∧ J n₀ m news ∧ ∀ n m₁ news₁ h₁ tk₁, Fr h₀ L h₁ m₁ → News h₀ L h₁ news₁ → J n m₁ news₁ →
      wpAny (model prog w) A (isTrue test env (eval test env)) (fun b s₂ =>
        if b = true then wpAny (model prog w) A (execs body env) (WhileStep h₀ L s J n) E s₂ else Q .next s₂) E { s with heap := h₁, toks := tk₁ }
theorem While_inF {test : Expr} {body : List Stmt} {pos : Pos} (_F : Fr h₀ L s.heap m) (h : WhileIn prog w A E Q env h₀ L test body s) (hE : PassesOwn (model prog w) A env E := by passes_own) :
    wpAny (model prog w) A (exec (.While test body [] pos) env) Q E s := by
  obtain ⟨m, news, n₀, J, F, N, hJ, turn⟩ := h
  exact While_inv J F N hJ turn hE
theorem while_pack {test : Expr} {body : List Stmt} (J : (Str → Option Value) → List (Addr × Obj) → Nat → (Str → Option Value) → List (Addr × Obj) → Prop) (n₀ : Nat)
    (F : Fr h₀ L s.heap m) (N : News h₀ L s.heap news) (hJ : J m news n₀ m news)
    (turn : ∀ n m₁ news₁ h₁ tk₁, Fr h₀ L h₁ m₁ → News h₀ L h₁ news₁ → J m news n m₁ news₁ →
      wpAny (model prog w) A (isTrue test env (eval test env)) (fun b s₂ =>
        if b = true then wpAny (model prog w) A (execs body env) (WhileStep h₀ L s (J m news) n) E s₂ else Q .next s₂) E { s with heap := h₁, toks := tk₁ }) :
    WhileIn prog w A E Q env h₀ L test body s := ⟨m, news, n₀, J m news, F, N, hJ, turn⟩
end
end Mine
namespace Mine
open PySem PySem.W PySem.Calls PySem.Spec PyProof.Rows
section
variable {prog : Program} {w : World} {A : Around} {E : Value → Shared → Prop} {s : Shared} {env : Env} {h₀ : Heap} {L : Addr} {m : Str → Option Value} {news : List (Addr × Obj)}
theorem pair_assign {a b : Str} {pa pb tp : Pos} {kk : Nat} {T : Addr} {x y : Value} {Q : Unit → Shared → Prop} (F : Fr h₀ env.locals s.heap m) (N : News h₀ env.locals s.heap news) (ht : s.heap.IsTuple T #[x, y]) (hh : A.handled = none)
    (ha : env.kindOf a = some .local) (hb : env.kindOf b = some .local) (hp : (env.scope.kind == .class || (env.scope.kind == .module && env.locals != env.globals)) = false)
    (h : ∀ (h' : Heap) (tk : Nat), Fr h₀ env.locals h' (fun z => if z = b then some y else if z = a then some x else m z) → News h₀ env.locals h' news → Q () { s with heap := h', toks := tk }) :
    wpAny (model prog w) A (assign (.Tuple [.Name a pa, .Name b pb] kk tp) env (.ref T)) Q E s :=
  kcp_assign hh ht ha hb hp F.ns fun h' tk hn hk =>
    h h' tk ⟨hn, fun c o e => hk c o (fun q => by
      subst q
      exact absurd (Nat.lt_of_lt_of_le (Heap.lt_size e) F.above) (Nat.lt_irrefl _)) (F.keep c o e), F.above⟩ fun p hp => ⟨hk p.1 p.2 (N p hp).2.1 (N p hp).1, (N p hp).2⟩
theorem inst_base {h₀ h : Heap} {L x C dx : Addr} {m : Str → Option Value} {od : Obj} {sl : Array (Option Value)} (F : Fr h₀ L h m) (h1 : h₀.get? x = some ⟨.ref C, some dx, .plain, sl⟩) (h2 : h₀.get? dx = some od) :
    InstAt h x ⟨.ref C, some dx, .plain, sl⟩ C (some od) := ⟨F.keep _ _ h1, rfl, rfl, F.keep _ _ h2⟩
end
noncomputable abbrev tupO (vs : List Value) : Obj := { cls := .type "tuple", data := .seq vs.toArray }
noncomputable abbrev lstO (vs : List Value) (n : Nat) : Obj := { cls := .type "list", data := .seq vs.toArray n }
/-- the items are pairs of texts -/
noncomputable def Tups (h : Heap) : List Value → List (Str × Str) → Prop
  | [], [] => True
  | v :: vs, e :: es => (∃ r ta tb, v = .ref r ∧ h.get? r = some (tupO [.str e.1 ta, .str e.2 tb])) ∧ Tups h vs es
  | _, _ => False
theorem Tups.keep {h h' : Heap} (k : Keep h h') : ∀ {vs : List Value} {es : List (Str × Str)}, Tups h vs es → Tups h' vs es
  | [], [], _ => trivial
  | _ :: _, _ :: _, ⟨⟨r, ta, tb, e, g⟩, t⟩ => ⟨⟨r, ta, tb, e, k _ _ g⟩, Tups.keep k t⟩
theorem Tups.length {h : Heap} : ∀ {vs : List Value} {es : List (Str × Str)}, Tups h vs es → vs.length = es.length
  | [], [], _ => rfl
  | _ :: _, _ :: _, ⟨_, t⟩ => by rw [List.length_cons, List.length_cons, Tups.length t]
theorem Tups.at {h : Heap} : ∀ {vs : List Value} {es : List (Str × Str)} {i : Nat} {v : Value}, Tups h vs es → vs[i]? = some v → ∃ e r ta tb, es[i]? = some e ∧ v = .ref r ∧ h.get? r = some (tupO [.str e.1 ta, .str e.2 tb])
  | [], [], _, _, _, e => by cases e
  | _ :: _, x :: _, 0, _, ⟨⟨r, ta, tb, e, g⟩, _⟩, q => by cases q; exact ⟨x, r, ta, tb, rfl, e, g⟩
  | _ :: _, _ :: _, i + 1, _, ⟨_, t⟩, q => by
    obtain ⟨e, r, ta, tb, a, b, c⟩ := Tups.at t (i := i) (by simpa using q)
    exact ⟨e, r, ta, tb, by simpa using a, b, c⟩
theorem Tups.snoc {h : Heap} {r : Addr} {a b : Str} {ta tb : Tok} (g : h.get? r = some (tupO [.str a ta, .str b tb])) : ∀ {vs : List Value} {es : List (Str × Str)}, Tups h vs es → Tups h (vs ++ [.ref r]) (es ++ [(a, b)])
  | [], [], _ => ⟨⟨r, ta, tb, rfl, g⟩, trivial⟩
  | _ :: _, _ :: _, ⟨x, t⟩ => ⟨x, Tups.snoc g t⟩
theorem Tups.refs {h : Heap} : ∀ {vs : List Value} {es : List (Str × Str)}, Tups h vs es → ∀ v ∈ vs, ∃ a, v = .ref a
  | [], [], _, _, hv => by cases hv
  | _ :: _, _ :: _, ⟨⟨r, _, _, e, _⟩, t⟩, v, hv => by
    rcases List.mem_cons.mp hv with rfl | hv
    · exact ⟨r, e⟩
    · exact Tups.refs t v hv
/-- what get gives back -/
noncomputable def GetRes (es : List (Str × Str)) (q : Str) (r : Value) : Prop := match es.find? (fun e => Txt.lower e.1 == q) with
  | some e => ∃ t, r = .str e.2 t
  | none => r = .none
theorem getRes_hit {es : List (Str × Str)} {q : Str} {i : Nat} {e : Str × Str} {t : Tok} (hp : ∀ j e', j < i → es[j]? = some e' → Txt.lower e'.1 ≠ q) (hi : es[i]? = some e) (he : Txt.lower e.1 = q) : GetRes es q (.str e.2 t) := by
  have : es.find? (fun e => Txt.lower e.1 == q) = some e := by
    rw [List.find?_eq_some_iff_getElem]
    obtain ⟨hlt, hg⟩ := List.getElem?_eq_some_iff.mp hi
    refine ⟨by simp [he], i, hlt, hg, fun j hj => ?_⟩
    have := hp j es[j] hj (by simp [Nat.lt_trans hj hlt])
    simp [this]
  unfold GetRes
  rw [this]
  exact ⟨t, rfl⟩
theorem getRes_none {es : List (Str × Str)} {q : Str} (hp : ∀ j e', j < es.length → es[j]? = some e' → Txt.lower e'.1 ≠ q) : GetRes es q .none := by
  have : es.find? (fun e => Txt.lower e.1 == q) = none := by
    rw [List.find?_eq_none]
    intro e he
    obtain ⟨j, hj, hg⟩ := List.mem_iff_getElem.mp he
    have := hp j e hj (by simp [hj, hg])
    simp [this]
  unfold GetRes
  rw [this]
end Mine
namespace Mine
open PySem PySem.W PySem.Calls PySem.Spec PyProof.Rows
theorem low_fit {x : Str} (h : x.length ≤ 1000) : Builtin.Str.tooLong (Txt.lower x).length = false := fit_lower (by omega)
end Mine
namespace Mine
open PySem PySem.W PySem.Calls PySem.Spec PyProof.Rows
theorem addr_ne {h : Heap} {a b : Addr} {oa ob : Obj} (ha : h.get? a = some oa) (hb : h.get? b = some ob) (hne : (oa.cls == ob.cls) = false) : a ≠ b := by
  rintro rfl
  rw [ha] at hb
  cases hb
  simp at hne
theorem Tups.but {h g : Heap} {l : Addr} {ol : Obj} (hl : h.get? l = some ol) (hc : ol.cls = .type "list") (k : ∀ b o, h.get? b = some o → b ≠ l → g.get? b = some o) : ∀ {vs : List Value} {es : List (Str × Str)}, Tups h vs es → Tups g vs es
  | [], [], _ => trivial
  | _ :: _, _ :: _, ⟨⟨r, ta, tb, e, q⟩, t⟩ => ⟨⟨r, ta, tb, e, k _ _ q (addr_ne q hl (by rw [hc]; rfl))⟩, Tups.but hl hc k t⟩
theorem getRes_cases {es : List (Str × Str)} {q : Str} {r : Value} (h : GetRes es q r) : (∃ e t, es.find? (fun e => Txt.lower e.1 == q) = some e ∧ r = .str e.2 t) ∨ (es.find? (fun e => Txt.lower e.1 == q) = none ∧ r = .none) := by
  unfold GetRes at h
  split at h
  · rename_i e he
    obtain ⟨t, rfl⟩ := h
    exact .inl ⟨e, t, he, rfl⟩
  · rename_i he
    exact .inr ⟨he, h⟩
end Mine
namespace Mine
open PySem PySem.W PySem.Calls PySem.Spec PyProof.Rows
theorem TupsOf.tups {h₀ h : Heap} {L : Addr} : ∀ {ps : List (Addr × Obj)} {es : List (Str × Str)}, TupsOf ps es → News h₀ L h ps → Tups h (ps.map fun p => Value.ref p.1) es
  | [], [], _, _ => trivial
  | p :: ps, e :: es, ⟨⟨ta, tb, q⟩, t⟩, N => ⟨⟨p.1, ta, tb, rfl, by rw [(N p (.head _)).1, q]⟩, TupsOf.tups t fun x hx => N x (.tail _ hx)⟩
end Mine
namespace Mine
open PySem PySem.W PySem.Calls PySem.Spec PyProof.Rows
section
variable {prog : Program} {w : World} {A : Around} {E : Value → Shared → Prop} {s : Shared} {K : Frag} {h₀ : Heap} {L : Addr} {m : Str → Option Value}
theorem search_meth {a : Addr} {d : Data} {sl : Array (Option Value)} {pl : Sem Bool} {Q : Value × List Value → Shared → Prop} (F : Fr h₀ L s.heap m) (X : K.In h₀) (ho : K.lookup a = some ⟨.type "re.Pattern", none, d, sl⟩)
    (h : Q (.builtin "re.Pattern.search", [.ref a]) s) : wpAny (model prog w) A (getMethod (.ref a) (Str.ofString "search") pl) Q E s :=
  have e := F.keep _ _ (X _ _ ho)
  getMethod_builtin ⟨_, e, rfl⟩ re_attrs re_slot re_type (fun _ q => by cases q; exact ⟨_, e, rfl⟩) h
theorem search_name {a c : Addr} {x : Str} {t : Tok} {pat fl g1 g2 : Value} {gt k0 : Tok} {items : Array Value} {n : Nat} {Q : Value → Shared → Prop} (F : Fr h₀ L s.heap m) (X : K.In h₀)
    (ha : K.lookup a = some ⟨.type "re.Pattern", none, .fields #[pat, fl, .int 0 gt, g1, g2, .ref c, .int 0 k0], #[]⟩)
    (hc : K.lookup c = some ⟨.type "tuple", none, .seq items n, #[]⟩) (hcode : (items.map Builtin.Re.reRawOf).map (·.toNat) = nameCode) (hn : Fine x) (hx : x.length ≤ 1048576) (h : Q .none s) :
    wpAny (model prog w) A (call (.builtin "re.Pattern.search") [.ref a, .str x t]) Q E s :=
  call_search (F.keep _ _ (X _ _ ha)) (F.keep _ _ (X _ _ hc)) hcode rfl rfl (noSign_name hn) hx h
theorem search_val {a c : Addr} {x : Str} {t : Tok} {pat fl g1 g2 : Value} {gt k0 : Tok} {items : Array Value} {n : Nat} {Q : Value → Shared → Prop} (F : Fr h₀ L s.heap m) (X : K.In h₀)
    (ha : K.lookup a = some ⟨.type "re.Pattern", none, .fields #[pat, fl, .int 0 gt, g1, g2, .ref c, .int 0 k0], #[]⟩)
    (hc : K.lookup c = some ⟨.type "tuple", none, .seq items n, #[]⟩) (hcode : (items.map Builtin.Re.reRawOf).map (·.toNat) = valCode) (hn : Fine x) (hx : x.length ≤ 1048576) (h : Q .none s) :
    wpAny (model prog w) A (call (.builtin "re.Pattern.search") [.ref a, .str x t]) Q E s :=
  call_search (F.keep _ _ (X _ _ ha)) (F.keep _ _ (X _ _ hc)) hcode rfl rfl (noSign_val hn) hx h
end
end Mine
namespace Mine
open PySem PySem.W PySem.Calls PySem.Spec PyProof.Rows
section
variable {prog : Program} {w : World} {A : Around} {E : Value → Shared → Prop} {Q : Flow → Shared → Prop} {s : Shared} {env : Env} {h₀ : Heap} {L : Addr}

/-- what a text's loop wants behind its iterable (every sign below 128) -/
noncomputable def TextIn (prog : Program) (w : World) (A : Around) (E : Value → Shared → Prop) (Q : Flow → Shared → Prop) (env : Env) (h₀ : Heap) (L : Addr) (target : Expr) (body : List Stmt) (xv : Value) (s₁ : Shared) : Prop :=
  ∃ x t m news, xv = .str x t ∧ Fr h₀ L s₁.heap m ∧ News h₀ L s₁.heap news ∧ x.cps.all (· < 128) = true ∧
      ∃ J : Nat → (Str → Option Value) → List (Addr × Obj) → Prop, J 0 m news ∧
      (∀ i c tv m₁ news₁ h₁ tk₁ I oI, x.cps[i]? = some c → J i m₁ news₁ → Fr h₀ L h₁ m₁ → News h₀ L h₁ ((I, oI) :: news₁) → (∀ p ∈ news₁, p.1 ≠ I) →
        wpAny (model prog w) A (assign target env (.str ⟨#[c]⟩ tv)) (fun _ s₂ => wpAny (model prog w) A (execs body env) (TurnEnd h₀ L s₁ I oI (J (i + 1)) Q) E s₂) E { s₁ with heap := h₁, toks := tk₁ }) ∧
      (∀ m₁ news₁ h₁ tk₁, J x.cps.size m₁ news₁ → Fr h₀ L h₁ m₁ → News h₀ L h₁ news₁ → Q .next { s₁ with heap := h₁, toks := tk₁ })

theorem For_text {y : Str} {px : Pos} {iter : Expr} {body : List Stmt} {pos : Pos} (h₀ : Heap) (L : Addr) (hh : A.handled = none)
    (h : wpAny (model prog w) A (eval iter env) (TextIn prog w A E Q env h₀ L (.Name y px) body) E s)
    (hs : ∀ x, foldedSetIterable iter env x = pure x := by intro _; rfl)
    (hE : PassesOwn (model prog w) A env E := by passes_own) :
    wpAny (model prog w) A (exec (.For (.Name y px) iter body [] pos) env) Q E s := by
  refine wpAny_For (wpAny_mono h (fun xv s₁ h₁ => ?_) fun _ _ e => e) hs
  obtain ⟨x, t, m, news, rfl, F, N, ha, J, hJ, turn, done⟩ := h₁
  refine wpAny_pyIter_ascii ha ?_
  have hIL : ∀ p ∈ news, p.1 ≠ s₁.heap.objs.size := fun p hp => Nat.ne_of_lt (Heap.lt_size (N p hp).1)
  have hn0 : h₀.get? s₁.heap.objs.size = none := by
    cases q : h₀.get? s₁.heap.objs.size with
    | none => rfl
    | some o => exact absurd (Heap.lt_size (F.keep _ _ q)) (Nat.lt_irrefl _)
  have hLI : L ≠ s₁.heap.objs.size := by
    obtain ⟨oL, _, _, hL, _⟩ := F.ns
    exact Nat.ne_of_lt (Heap.lt_size hL)
  have F' := F.push { cls := .type "str_ascii_iterator", data := .fields #[.str x t, .int 0 0] }
  have N' : News h₀ L (s₁.heap.push { cls := .type "str_ascii_iterator", data := .fields #[.str x t, .int 0 0] }) news := fun p hp => ⟨Heap.get?_push_of_some _ (N p hp).1, (N p hp).2⟩
  have hI : (s₁.heap.push { cls := .type "str_ascii_iterator", data := .fields #[.str x t, .int 0 0] }).IsStrIter s₁.heap.objs.size "str_ascii_iterator" x t 0 := ⟨_, Heap.get?_push_size _ rfl, rfl, rfl⟩
  generalize s₁.heap.push { cls := .type "str_ascii_iterator", data := .fields #[.str x t, .int 0 0] } = hp at F' N' hI
  generalize s₁.heap.objs.size = I at *
  refine codeAny_forLoop_any (fun k s' => ∃ h' tk m' news' i, s' = { s₁ with heap := h', toks := tk } ∧ h'.IsStrIter I "str_ascii_iterator" x t i ∧ Fr h₀ L h' m' ∧ News h₀ L h' news' ∧ (∀ p ∈ news', p.1 ≠ I) ∧ J i m' news' ∧ i ≤ x.cps.size ∧ k = x.cps.size + 1 - i) ?_ (x.cps.size + 1)
    ⟨hp, s₁.toks, m, news, 0, rfl, hI, F', N', hIL, hJ, Nat.zero_le _, rfl⟩
  rintro k s' ⟨h', tk, m', news', i, rfl, hI', F₁, N₁, hn₁, hJ₁, hi, rfl⟩
  by_cases hlt : i < x.cps.size
  · have hx : x.cps[i]? = some x.cps[i] := by simp [hlt]
    refine wpAny_pyNext_ascii_item hI' hx fun h₂ hI₂ hs₂ => ?_
    refine go_any ?_
    have F₂ : Fr h₀ L h₂ m' := ⟨F₁.ns.sameBut hs₂ hLI, fun b o e => (hs₂.2 b (fun q => by rw [q, hn0] at e; cases e)).trans (F₁.keep b o e), F₁.above⟩
    have N₂ : News h₀ L h₂ news' := fun p hp => ⟨(hs₂.2 p.1 (hn₁ p hp)).trans (N₁ p hp).1, (N₁ p hp).2⟩
    obtain ⟨oI, hoI, hcI, hdI⟩ := id hI₂
    have N₃ : News h₀ L h₂ ((I, oI) :: news') := by
      intro p hp
      rcases List.mem_cons.mp hp with rfl | hp
      · exact ⟨hoI, fun e => hLI e.symm, hn0⟩
      · exact N₂ p hp
    refine wpAny_mono (wpAny_passesOwn hE (turn i _ _ m' news' h₂ (tk + 1) I oI hx hJ₁ F₂ N₃ hn₁)) (fun _ s₂ h₂ => ?_) fun _ _ e => e
    refine wpAny_mono (wpAny_passesOwn hE h₂) (fun f s₃ h₃ => ?_) fun _ _ e => e
    have fin : (∃ h' tk m₂ news₂, s₃ = { s₁ with heap := h', toks := tk } ∧ Fr h₀ L h' m₂ ∧ News h₀ L h' ((I, oI) :: news₂) ∧ (∀ p ∈ news₂, p.1 ≠ I) ∧ J (i + 1) m₂ news₂) →
        ∃ m, m < x.cps.size + 1 - i ∧ ∃ h' tk m' news' i, s₃ = { s₁ with heap := h', toks := tk } ∧ h'.IsStrIter I "str_ascii_iterator" x t i ∧ Fr h₀ L h' m' ∧ News h₀ L h' news' ∧ (∀ p ∈ news', p.1 ≠ I) ∧ J i m' news' ∧ i ≤ x.cps.size ∧ m = x.cps.size + 1 - i := by
      rintro ⟨h3, tk3, m3, news3, rfl, F3, N3, hn3, J3⟩
      refine ⟨x.cps.size + 1 - (i + 1), by omega, h3, tk3, m3, news3, i + 1, rfl, ⟨oI, (N3 _ (.head _)).1, hcI, hdI⟩, F3, fun p hp => N3 p (.tail _ hp), hn3, J3, hlt, rfl⟩
    cases f with
    | next => exact fin h₃
    | cont => exact fin h₃
    | brk => exact h₃
    | ret v => exact h₃
  · have hin : i = x.cps.size := by omega
    subst hin
    refine wpAny_pyNext_ascii_end hh hI' (by simp) fun h₂ hs₂ => ?_
    refine wpAny_execs_nil ?_
    exact done m' news' h₂ tk hJ₁ ⟨F₁.ns.at' fun o e => hs₂ _ o hLI e, fun b o e => hs₂ b o (fun q => by rw [q, hn0] at e; cases e) (F₁.keep b o e), F₁.above⟩ fun p hp => ⟨hs₂ _ _ (hn₁ p hp) (N₁ p hp).1, (N₁ p hp).2⟩

theorem For_textF {y : Str} {px : Pos} {iter : Expr} {body : List Stmt} {pos : Pos} {m : Str → Option Value} (_F : Fr h₀ L s.heap m) (hh : A.handled = none)
    (h : wpAny (model prog w) A (eval iter env) (TextIn prog w A E Q env h₀ L (.Name y px) body) E s)
    (hs : ∀ x, foldedSetIterable iter env x = pure x := by intro _; rfl)
    (hE : PassesOwn (model prog w) A env E := by passes_own) :
    wpAny (model prog w) A (exec (.For (.Name y px) iter body [] pos) env) Q E s := For_text h₀ L hh h hs hE
theorem text_pack {target : Expr} {body : List Stmt} {s₁ : Shared} {x : Str} {t : Tok} {m : Str → Option Value} {news : List (Addr × Obj)} (J : (Str → Option Value) → List (Addr × Obj) → Nat → (Str → Option Value) → List (Addr × Obj) → Prop)
    (ha : x.cps.all (· < 128) = true) (F : Fr h₀ L s₁.heap m) (N : News h₀ L s₁.heap news) (hJ : J m news 0 m news)
    (turn : ∀ i c tv m₁ news₁ h₁ tk₁ I oI, x.cps[i]? = some c → J m news i m₁ news₁ → Fr h₀ L h₁ m₁ → News h₀ L h₁ ((I, oI) :: news₁) → (∀ p ∈ news₁, p.1 ≠ I) →
        wpAny (model prog w) A (assign target env (.str ⟨#[c]⟩ tv)) (fun _ s₂ => wpAny (model prog w) A (execs body env) (TurnEnd h₀ L s₁ I oI (J m news (i + 1)) Q) E s₂) E { s₁ with heap := h₁, toks := tk₁ })
    (done : ∀ m₁ news₁ h₁ tk₁, J m news x.cps.size m₁ news₁ → Fr h₀ L h₁ m₁ → News h₀ L h₁ news₁ → Q .next { s₁ with heap := h₁, toks := tk₁ }) :
    TextIn prog w A E Q env h₀ L target body (.str x t) s₁ :=
  ⟨x, t, m, news, rfl, F, N, ha, J m news, hJ, turn, done⟩
end
end Mine
namespace Mine
open PySem PySem.W PySem.Calls PySem.Spec PyProof.Rows
noncomputable def SmallP (ps : List Int) : Prop := ∀ a ∈ ps, 0 ≤ a ∧ a ≤ 11
theorem SmallP.at {ps : List Int} (h : SmallP ps) {a : Int} (ha : a ∈ ps) : 0 ≤ a ∧ a ≤ 11 := h a ha
/-- one port's run -/
noncomputable abbrev pieceF (a : Int) : Str := Txt.mul (Str.ofString " ") a ++ Str.ofString "\t"
noncomputable def leadT (ps : List Int) : Str := Txt.join (Str.ofString "") (ps.map pieceF)
noncomputable def upTo (N : Int) : List Int := (List.range N.toNat).map fun k : Nat => (k : Int)
noncomputable def codesF (ps : List Int) : List Nat := ps.flatMap fun a => List.replicate a.toNat 32 ++ [9]
theorem piece_all : ∀ n : Fin 12, (pieceF (n.1 : Int)).cps.toList = List.replicate n.1 32 ++ [9] := by decide +kernel
theorem piece_cps {a : Int} (h0 : 0 ≤ a) (h1 : a ≤ 11) : (pieceF a).cps.toList = List.replicate a.toNat 32 ++ [9] := by
  obtain ⟨n, rfl⟩ := Int.eq_ofNat_of_zero_le h0
  exact piece_all ⟨n, by omega⟩
theorem piece_len {a : Int} (h0 : 0 ≤ a) (h1 : a ≤ 11) : (pieceF a).length ≤ 12 := by
  have := piece_cps h0 h1
  have h2 := congrArg List.length this
  simp only [Array.length_toList, List.length_append, List.length_replicate, List.length_cons, List.length_nil] at h2
  show (pieceF a).cps.size ≤ 12
  omega
theorem join_cps : ∀ l : List Str, (Txt.join (Str.ofString "") l).cps.toList = l.flatMap fun x => x.cps.toList := by
  intro l
  show (Builtin.Str.glued (Str.ofString "") l).cps.toList = _
  rw [StrLaws.glued_eq_join]
  induction l with
  | nil => rfl
  | cons x r ih =>
    cases r with
    | nil => simp [Str.join]
    | cons y r =>
      have e : Str.join (Str.ofString "") (x :: y :: r) = x ++ Str.ofString "" ++ Str.join (Str.ofString "") (y :: r) := rfl
      rw [e, cps_toList_append, cps_toList_append, ih]
      simp
      rfl
theorem lead_cps {ps : List Int} (h : SmallP ps) : (leadT ps).cps.toList = codesF ps := by
  unfold leadT codesF
  rw [join_cps, List.flatMap_map]
  have : ∀ qs : List Int, (∀ a ∈ qs, a ∈ ps) → (qs.flatMap fun a => (pieceF a).cps.toList) = qs.flatMap fun a => List.replicate a.toNat 32 ++ [9] := by
    intro qs
    induction qs with
    | nil => intro _; rfl
    | cons q r ih =>
      intro hq
      rw [List.flatMap_cons, List.flatMap_cons, ih (fun a ha => hq a (.tail _ ha)), piece_cps (h q (hq q (.head _))).1 (h q (hq q (.head _))).2]
  exact this ps fun _ h => h
theorem codes_mem {ps : List Int} {c : Nat} (h : c ∈ codesF ps) : c = 32 ∨ c = 9 := by
  unfold codesF at h
  obtain ⟨a, _, h⟩ := List.mem_flatMap.mp h
  rcases List.mem_append.mp h with h | h
  · exact .inl (List.eq_of_mem_replicate h)
  · exact .inr (List.mem_singleton.mp h)
theorem codes_len {ps : List Int} (h : SmallP ps) : (codesF ps).length ≤ 12 * ps.length := by
  unfold codesF
  induction ps with
  | nil => simp
  | cons q r ih =>
    have := ih fun a ha => h a (.tail _ ha)
    have := (h q (.head _)).2
    have := (h q (.head _)).1
    simp only [List.flatMap_cons, List.length_append, List.length_replicate, List.length_cons, List.length_nil] at *
    omega
theorem all_of (x : Str) (h : ∀ c ∈ x.cps.toList, c = 32 ∨ c = 9) : x.cps.all (· < 128) = true := by
  rw [← Array.all_toList, List.all_eq_true]
  intro c hc
  rcases h c hc with rfl | rfl <;> decide
/-- one tab more behind b blanks -/
noncomputable def bumpF (cs : List Int) (b : Nat) : List Int := (cs ++ List.replicate (b + 1 - cs.length) 0).set b ((cs ++ List.replicate (b + 1 - cs.length) 0).getD b 0 + 1)
structure WsSt where
  cs : List Int
  b : Nat
  n : Nat
  nt : Nat
noncomputable def wsStep (st : WsSt) (c : Nat) : WsSt := if c = 32 then ⟨st.cs, st.b + 1, st.n + 1, st.nt⟩ else ⟨bumpF st.cs st.b, 0, st.n + 1, st.nt + 1⟩
noncomputable def wsFold (l : List Nat) : WsSt := l.foldl wsStep ⟨[], 0, 0, 0⟩
theorem wsFold_snoc (l : List Nat) (c : Nat) : wsFold (l ++ [c]) = wsStep (wsFold l) c := by
  unfold wsFold
  rw [List.foldl_append]
  rfl
theorem bump_len (cs : List Int) (b : Nat) : (bumpF cs b).length = max cs.length (b + 1) := by
  unfold bumpF
  rw [List.length_set, List.length_append, List.length_replicate]
  omega
noncomputable def WsOk (st : WsSt) (k : Nat) : Prop := st.cs.length + st.b ≤ k ∧ st.n = k ∧ st.nt ≤ k ∧ ∀ a ∈ st.cs, 0 ≤ a ∧ a ≤ k
theorem ext_mem {cs : List Int} {j k : Nat} (h : ∀ a ∈ cs, 0 ≤ a ∧ a ≤ (k : Int)) : ∀ a ∈ cs ++ List.replicate j (0 : Int), 0 ≤ a ∧ a ≤ (k : Int) := by
  intro a ha
  rcases List.mem_append.mp ha with ha | ha
  · exact h a ha
  · rw [List.eq_of_mem_replicate ha]
    omega
theorem ws_step {st : WsSt} {k : Nat} (h : WsOk st k) (c : Nat) : WsOk (wsStep st c) (k + 1) := by
  obtain ⟨h1, h2, h3, h4⟩ := h
  unfold wsStep
  split
  · exact ⟨by simp only; omega, by simp only; omega, by simp only; omega, fun a ha => by have := h4 a ha; omega⟩
  · refine ⟨?_, by simp only; omega, by simp only; omega, ?_⟩
    · simp only [bump_len]
      omega
    · intro a ha
      simp only [bumpF] at ha
      have hext := ext_mem (j := st.b + 1 - st.cs.length) h4
      rcases List.mem_or_eq_of_mem_set ha with ha | rfl
      · have := hext a ha
        omega
      · have hin : st.b < (st.cs ++ List.replicate (st.b + 1 - st.cs.length) (0 : Int)).length := by
          rw [List.length_append, List.length_replicate]
          omega
        have e : (st.cs ++ List.replicate (st.b + 1 - st.cs.length) (0 : Int)).getD st.b 0 = (st.cs ++ List.replicate (st.b + 1 - st.cs.length) (0 : Int))[st.b] := by
          rw [List.getD_eq_getElem?_getD, List.getElem?_eq_getElem hin]
          rfl
        rw [e]
        have := hext _ (List.getElem_mem hin)
        omega
theorem ws_run : ∀ (l : List Nat) {st : WsSt} {k : Nat}, WsOk st k → WsOk (l.foldl wsStep st) (k + l.length)
  | [], _, _, h => h
  | c :: l, st, k, h => by
    have := ws_run l (ws_step h c)
    rw [List.foldl_cons, List.length_cons, show k + (l.length + 1) = k + 1 + l.length from by omega]
    exact this
theorem ws_ok (l : List Nat) : WsOk (wsFold l) l.length := by
  have := ws_run l (st := ⟨[], 0, 0, 0⟩) (k := 0) ⟨by simp, rfl, by simp, fun a h => by cases h⟩
  rw [Nat.zero_add] at this
  exact this
theorem ws_take {l : List Nat} {i c : Nat} (h : l[i]? = some c) : wsFold (l.take (i + 1)) = wsStep (wsFold (l.take i)) c := by
  obtain ⟨hi, rfl⟩ := List.getElem?_eq_some_iff.mp h
  rw [List.take_succ_eq_append_getElem hi, wsFold_snoc]
/-- a Whitespace's five names -/
noncomputable abbrev wsDict (P : Params) (k1 k2 k3 k4 k5 : Tok) (raw n nt norm sv : Value) : Obj := dictOf [{ hash := PyData.keyHash P (Str.ofString "raw"), key := .str (Str.ofString "raw") k1, val := raw }, { hash := PyData.keyHash P (Str.ofString "n"), key := .str (Str.ofString "n") k2, val := n }, { hash := PyData.keyHash P (Str.ofString "nt"), key := .str (Str.ofString "nt") k3, val := nt }, { hash := PyData.keyHash P (Str.ofString "norm"), key := .str (Str.ofString "norm") k4, val := norm }, { hash := PyData.keyHash P (Str.ofString "is_simple"), key := .str (Str.ofString "is_simple") k5, val := sv }] 5
/-- a Whitespace's part of the ledger -/
noncomputable abbrev wsL (C : Addr) (P : Params) (x d D1 D2 : Addr) (k1 k2 k3 k4 k5 : Tok) (raw n nt b sv : Value) (vs : List Value) : List (Addr × Obj) :=
  [(x, instObj C d), (d, wsDict P k1 k2 k3 k4 k5 raw n nt (.ref D2) sv), (D2, tupO [.ref D1, b]), (D1, tupO vs)]
/-- x is a Whitespace of this state -/
noncomputable def WsAt (C : Addr) (P : Params) (h : Heap) (x : Addr) (st : WsSt) : Prop := ∃ d D1 D2 k1 k2 k3 k4 k5 tn tt tb rv sv vs, (∀ p ∈ wsL C P x d D1 D2 k1 k2 k3 k4 k5 rv (.int st.n tn) (.int st.nt tt) (.int st.b tb) sv vs, h.get? p.1 = some p.2) ∧ IntsAre vs st.cs
theorem ws_facts {C : Addr} {P : Params} {h : Heap} {x d D1 D2 : Addr} {k1 k2 k3 k4 k5 : Tok} {rv n nt b sv : Value} {vs : List Value} (H : ∀ p ∈ wsL C P x d D1 D2 k1 k2 k3 k4 k5 rv n nt b sv vs, h.get? p.1 = some p.2) :
    h.get? x = some (instObj C d) ∧ h.get? d = some (wsDict P k1 k2 k3 k4 k5 rv n nt (.ref D2) sv) ∧ h.get? D2 = some (tupO [.ref D1, b]) ∧ h.get? D1 = some (tupO vs) :=
  ⟨H _ (.head _), H _ (.tail _ (.head _)), H _ (.tail _ (.tail _ (.head _))), H _ (.tail _ (.tail _ (.tail _ (.head _))))⟩
/-- the column behind the first i classes of runs -/
noncomputable def ilF (cs : List Int) (tab : Int) : Nat → Int
  | 0 => 0
  | i + 1 => ilF cs tab i + Int.fdiv (tab + i) tab * cs.getD (tab + (i : Int)).toNat 0
noncomputable def levelF (st : WsSt) (tab : Int) : Int := st.b + tab * (ilF st.cs tab ((st.cs.length : Int) - tab).toNat + st.nt)
end Mine
namespace Mine
open PySem PySem.W PySem.Calls PySem.Spec PyProof.Rows
theorem ints_reads {h : Heap} : ∀ {vs : List Value} {cs : List Int}, IntsAre vs cs → ReadsAll h vs (cs.map PyData.int) []
  | _, _, .nil => .nil
  | _, _, .cons i t r => .cons (as := []) (bs := []) (Reads.int i t) (ints_reads r)
theorem norm_reads {h : Heap} {D1 D2 : Addr} {vs : List Value} {cs : List Int} {b : Int} {tb : Tok} (g2 : h.get? D2 = some (tupO [.ref D1, .int b tb])) (g1 : h.get? D1 = some (tupO vs)) (hi : IntsAre vs cs) :
    Reads h (.ref D2) (.tuple [.tuple (cs.map PyData.int), .int b]) [] :=
  reads_tuple_at g2 rfl rfl (.cons (as := []) (bs := []) (reads_tuple_at g1 rfl rfl (ints_reads hi)) (.cons (as := []) (bs := []) (Reads.int b tb) .nil))
theorem norm_shaped (cs : List Int) (b : Int) : SeqAt.shaped (.tuple [.tuple (cs.map PyData.int), .int b]) = true := by
  simp [SeqAt.shaped, PyData.canLay0, PyData.canLayAll0, PyData.depth, PyData.depthAll, ke_canLayAll0, ke_depthAll]
theorem norm_eq {prog : Program} {w : World} {A : Around} {E : Value → Shared → Prop} {s : Shared} {Q : Value → Shared → Prop} {D1 D2 D1' D2' : Addr} {vs vs' : List Value} {cs cs' : List Int} {b b' : Nat} {tb tb' : Tok}
    (g2 : s.heap.get? D2 = some (tupO [.ref D1, .int b tb])) (g1 : s.heap.get? D1 = some (tupO vs)) (hi : IntsAre vs cs)
    (g2' : s.heap.get? D2' = some (tupO [.ref D1', .int b' tb'])) (g1' : s.heap.get? D1' = some (tupO vs')) (hi' : IntsAre vs' cs') (hu : A.units + 64 < cLine)
    (h : Q (.bool (decide (cs = cs' ∧ b = b'))) s) : wpAny (model prog w) A (compareOp .Eq (.ref D2) (.ref D2')) Q E s := by
  refine eq_dataH_same (norm_reads g2 g1 hi) (norm_reads g2' g1' hi') (norm_shaped cs b) (norm_shaped cs' b') hu ?_ ?_
  · simp only [SeqAt.noMix, SeqAt.noMixAll, Bool.and_true]
    exact noMix_ints cs cs'
  · have e : PySem.Spec.same (.tuple [.tuple (cs.map PyData.int), .int (b : Int)]) (.tuple [.tuple (cs'.map PyData.int), .int (b' : Int)]) = decide (cs = cs' ∧ b = b') := by
      simp only [PySem.Spec.same, PySem.Spec.sameAll, Bool.and_true]
      rw [same_ints]
      by_cases h1 : cs = cs' <;> by_cases h2 : b = b' <;> simp [h1, h2, Int.natCast_inj]
    rw [e]
    exact h
theorem tup_len {prog : Program} {w : World} {A : Around} {E : Value → Shared → Prop} {s : Shared} {Q : Value → Shared → Prop} {h₀ : Heap} {L D : Addr} {m : Str → Option Value} {vs : List Value} {cs : List Int}
    (F : Fr h₀ L s.heap m) (e : h₀.get? D = some (tupO vs)) (hi : IntsAre vs cs) (hz : cs.length ≤ 16384) (h : Q (.int cs.length (s.toks + 1)) { s with toks := s.toks + 1 + 1 }) : wpAny (model prog w) A (call (.builtin "len") [.ref D]) Q E s :=
  kun_lenT (items := vs.toArray) ⟨_, F.keep _ _ e, rfl, _, rfl⟩ (by rw [List.size_toArray, hi.length]) (by omega) h
theorem tup_item {prog : Program} {w : World} {A : Around} {E : Value → Shared → Prop} {s : Shared} {value slice : PySem.Expr} {Q : Value → Shared → Prop} {h₀ : Heap} {L D : Addr} {m : Str → Option Value} {vs : List Value} {cs : List Int} {k : Int} {u : Tok}
    (F : Fr h₀ L s.heap m) (e : h₀.get? D = some (tupO vs)) (hi : IntsAre vs cs) (h0 : 0 ≤ k) (h1 : k < cs.length) (hz : k < 2 ^ 63) (h : ∀ t, Q (.int (cs.getD k.toNat 0) t) s)
    (hs : subscripted slice false (.ref D) (.int k u) = operate [.ref D, .int k u] (getItem (.ref D) (.int k u)) := by with_unfolding_all rfl) :
    wpAny (model prog w) A (subscriptTail value slice (.ref D) (.int k u)) Q E s := by
  obtain ⟨t, hx⟩ := hi.get k.toNat _ (ints_getD h0 h1)
  have hj : seqIndex? k vs.length = some k.toNat := by
    have := hi.length
    unfold seqIndex?
    simp only
    rw [if_neg (by omega : ¬ k < 0), if_pos (by simp; omega)]
  exact item_tupleT (l := vs) ⟨_, F.keep _ _ e, rfl, _, rfl⟩ (by omega) hz hj hx (h t) hs
theorem WsAt.keep {C : Addr} {P : Params} {h h' : Heap} {x : Addr} {st : WsSt} (k : ∀ b o, h.get? b = some o → h'.get? b = some o) (hx : WsAt C P h x st) : WsAt C P h' x st := by
  obtain ⟨d, D1, D2, k1, k2, k3, k4, k5, tn, tt, tb, rv, sv, vs, H, hi⟩ := hx
  exact ⟨d, D1, D2, k1, k2, k3, k4, k5, tn, tt, tb, rv, sv, vs, fun p hp => k _ _ (H p hp), hi⟩
/-- bounds of a Whitespace -/
structure WsLow (st : WsSt) : Prop where
  l : st.cs.length ≤ 20
  b : st.b ≤ 100
  nt : st.nt ≤ 100
  c : ∀ a ∈ st.cs, 0 ≤ a ∧ a ≤ 100
noncomputable abbrev longF (st : WsSt) : Int := max ((st.cs.length : Int) - 1) st.b
noncomputable def witF (st st' : WsSt) : Nat → List (Int × Int × Int)
  | 0 => []
  | i + 1 => witF st st' i ++ (if levelF st (1 + (i : Int)) = levelF st' (1 + (i : Int)) then [] else [(1 + (i : Int), levelF st (1 + (i : Int)), levelF st' (1 + (i : Int)))])
noncomputable def witnessF (st st' : WsSt) : List (Int × Int × Int) := witF st st' (max (longF st) (longF st') + 1).toNat
theorem witF_len (st st' : WsSt) : ∀ i, (witF st st' i).length ≤ i
  | 0 => Nat.le_refl _
  | i + 1 => by
    unfold witF
    have := witF_len st st' i
    rw [List.length_append]
    split <;> simp <;> omega
/-- tuples of three ints -/
noncomputable def TripOf : List (Addr × Obj) → List (Int × Int × Int) → Prop
  | [], [] => True
  | p :: ps, e :: es => (∃ ta tb tc, p.2 = { cls := .type "tuple", data := .seq [.int e.1 ta, .int e.2.1 tb, .int e.2.2 tc].toArray }) ∧ TripOf ps es
  | _, _ => False
theorem TripOf.length : ∀ {ps : List (Addr × Obj)} {es : List (Int × Int × Int)}, TripOf ps es → ps.length = es.length
  | [], [], _ => rfl
  | _ :: _, _ :: _, ⟨_, t⟩ => by rw [List.length_cons, List.length_cons, TripOf.length t]
theorem TripOf.snoc {a : Addr} {x y z : Int} {ta tb tc : Tok} : ∀ {ps : List (Addr × Obj)} {es : List (Int × Int × Int)}, TripOf ps es → TripOf (ps ++ [(a, { cls := .type "tuple", data := .seq [.int x ta, .int y tb, .int z tc].toArray })]) (es ++ [(x, y, z)])
  | [], [], _ => ⟨⟨ta, tb, tc, rfl⟩, trivial⟩
  | _ :: _, _ :: _, ⟨h, t⟩ => ⟨h, TripOf.snoc t⟩
end Mine
namespace Mine
open PySem PySem.W PySem.Calls PySem.Spec PyProof.Rows
section
variable {prog : Program} {w : World} {A : Around} {E : Value → Shared → Prop} {R : Result → Shared → Prop} {s : Shared} {env : Env}
/-- the comprehension's loop, its target's tuple let go by the walk -/
theorem compLoop_go {elt target iter : Expr} {ifs : List Expr} {scope : Scope} {pos : Pos} {it acc : Value} {env : Env} (I : Nat → Shared → Prop)
    (turn : ∀ n s, I n s → wpAny (model prog w) A (pyNext it) (fun r s₁ => match r with
      | none => R (.ok .next) s₁
      | some v => wpAny (model prog w) A (letOwnedTupleGo target it v) (fun _ s₁ => wpAny (model prog w) A (assign target env v) (fun _ s₂ =>
          wpAny (model prog w) A (forIn ifs true fun c r => if r = true then do let ok ← isTrue c env (eval c env); pure (ForInStep.yield ok) else pure (ForInStep.yield r)) (fun ok s₃ =>
            if ok = true then wpAny (model prog w) A (eval elt env) (fun x s₄ =>
              wpAny (model prog w) A (call (.builtin "list.append") [acc, x]) (fun _ s₅ => ∃ m, m < n ∧ I m s₅) (notedBy (model prog w) A env fun e s' => R (.error e) s') s₄) (notedBy (model prog w) A env fun e s' => R (.error e) s') s₃
            else ∃ m, m < n ∧ I m s₃) (notedBy (model prog w) A env fun e s' => R (.error e) s') s₂) (notedBy (model prog w) A env fun e s' => R (.error e) s') s₁) (notedBy (model prog w) A env fun e s' => R (.error e) s') s₁) (notedBy (model prog w) A env fun e s' => R (.error e) s') s)
    (n : Nat) (h : I n s) :
    codeAny (model prog w) A (.compLoop (.ListComp elt [⟨target, iter, ifs, 0⟩] scope pos) 0 it acc env) R s := by
  refine codeAny_loop rfl I (fun n s hI => ?_) n h
  show wpAny _ A ((compTurn (.ListComp elt [⟨target, iter, ifs, 0⟩] scope pos) 0 it acc env).onRaise (fun x => do noteFrame x env; theTreesLotGoes x)) _ _ s
  refine wpAny_noted ?_
  rw [compTurn_list]
  refine wpAny_bind (wpAny_standAt (wpAny_bind (wpAny_mono (turn n s hI) (fun r s₁ h₁ => ?_) fun _ _ h' => h')))
  cases r with
  | none => exact wpAny_pure h₁
  | some v =>
    refine wpAny_bind (wpAny_mono h₁ (fun _ s₁ h₁ => ?_) fun _ _ h' => h')
    refine wpAny_bind (wpAny_mono h₁ (fun _ s₂ h₂ => wpAny_bind (wpAny_mono h₂ (fun ok s₃ h₃ => ?_) fun _ _ h' => h')) fun _ _ h' => h')
    cases ok with
    | false => exact wpAny_pure ⟨rfl, h₃⟩
    | true =>
      exact wpAny_bind (wpAny_bind (wpAny_mono h₃ (fun x s₄ h₄ => wpAny_bind (wpAny_mono h₄ (fun _ s₅ h₅ => wpAny_pure (wpAny_pure ⟨rfl, h₅⟩)) fun _ _ h' => h')) fun _ _ h' => h'))
/-- a comprehension turn's end -/
noncomputable def CompEnd (s₁ : Shared) (hb : Heap) (C I D : Addr) (oI oD : Obj) (J : List (Addr × Obj) → Prop) (s₃ : Shared) : Prop :=
  ∃ h' tk m' news₂, s₃ = { s₁ with heap := h', toks := tk } ∧ Fr hb C h' m' ∧ News hb C h' ((I, oI) :: (D, oD) :: news₂) ∧ (∀ p ∈ news₂, p.1 ≠ I ∧ p.1 ≠ D) ∧ J news₂
/-- what a comprehension over a list wants behind its iterable -/
noncomputable def CompIn (prog : Program) (w : World) (A : Around) (env : Env) (scope : Scope) (cl : List (Str × Addr)) (target elt : Expr) (ifs : List Expr) (Q : Value → Shared → Prop) (xv : Value) (s₁ : Shared) : Prop :=
  ∃ l items, xv = .ref l ∧ s₁.heap.IsList l items ∧ items.size ≤ sizeLine ∧ GoOk prog w A target items ∧
    ∃ J : Nat → List Value → List (Addr × Obj) → Prop, J 0 [] [] ∧
      (∀ hb C D I oI i v ys nD news₁ mC h₁ tk₁ E', Keep s₁.heap hb → items[i]? = some v → J i ys news₁ → Fr hb C h₁ mC → News hb C h₁ ((I, oI) :: (D, listOf ys.toArray nD) :: news₁) → (∀ p ∈ news₁, p.1 ≠ I ∧ p.1 ≠ D) → I ≠ D →
        wpAny (model prog w) A (assign target (compEnvC scope cl C env) v) (fun _ s₂ =>
          wpAny (model prog w) A (forIn ifs true fun c r => if r = true then do let ok ← isTrue c (compEnvC scope cl C env) (eval c (compEnvC scope cl C env)); pure (ForInStep.yield ok) else pure (ForInStep.yield r)) (fun ok s₃ =>
            if ok = true then wpAny (model prog w) A (eval elt (compEnvC scope cl C env)) (fun y s₄ => CompEnd s₁ hb C I D oI (listOf ys.toArray nD) (J (i + 1) (ys ++ [y])) s₄) E' s₃
            else CompEnd s₁ hb C I D oI (listOf ys.toArray nD) (J (i + 1) ys) s₃) E' s₂) E' { s₁ with heap := h₁, toks := tk₁ }) ∧
      (∀ ys D nD news h' tk, J items.size ys news → Keep s₁.heap h' → s₁.heap.get? D = none → h'.get? D = some (lstO ys nD) → (∀ p ∈ news, h'.get? p.1 = some p.2 ∧ s₁.heap.get? p.1 = none ∧ p.1 ≠ D) → Q (.ref D) { s₁ with heap := h', toks := tk })
/-- the same with the end left open -/
noncomputable def CompInU (prog : Program) (w : World) (A : Around) (E : Value → Shared → Prop) (env : Env) (scope : Scope) (cl : List (Str × Addr)) (target elt : Expr) (ifs : List Expr) (use : Option (Value → Sem Unit)) (Q : Value → Shared → Prop) (xv : Value) (s₁ : Shared) : Prop :=
  ∃ l items, xv = .ref l ∧ s₁.heap.IsList l items ∧ items.size ≤ sizeLine ∧ GoOk prog w A target items ∧
    ∃ J : Nat → List Value → List (Addr × Obj) → Prop, J 0 [] [] ∧
      (∀ hb C D I oI i v ys nD news₁ mC h₁ tk₁ E', Keep s₁.heap hb → items[i]? = some v → J i ys news₁ → Fr hb C h₁ mC → News hb C h₁ ((I, oI) :: (D, listOf ys.toArray nD) :: news₁) → (∀ p ∈ news₁, p.1 ≠ I ∧ p.1 ≠ D) → I ≠ D →
        wpAny (model prog w) A (assign target (compEnvC scope cl C env) v) (fun _ s₂ =>
          wpAny (model prog w) A (forIn ifs true fun c r => if r = true then do let ok ← isTrue c (compEnvC scope cl C env) (eval c (compEnvC scope cl C env)); pure (ForInStep.yield ok) else pure (ForInStep.yield r)) (fun ok s₃ =>
            if ok = true then wpAny (model prog w) A (eval elt (compEnvC scope cl C env)) (fun y s₄ => CompEnd s₁ hb C I D oI (listOf ys.toArray nD) (J (i + 1) (ys ++ [y])) s₄) E' s₃
            else CompEnd s₁ hb C I D oI (listOf ys.toArray nD) (J (i + 1) ys) s₃) E' s₂) E' { s₁ with heap := h₁, toks := tk₁ }) ∧
      (∀ ys D nD news h' tk C mC, J items.size ys news → Keep s₁.heap h' → s₁.heap.get? D = none → h'.get? D = some (lstO ys nD) → (∀ p ∈ news, h'.get? p.1 = some p.2 ∧ s₁.heap.get? p.1 = none ∧ p.1 ≠ D ∧ p.1 ≠ C) →
        s₁.heap.get? C = none → C ≠ D → h'.Ns C mC → compPost (model prog w) A E use Q (.ref D) C (.ok .next) { s₁ with heap := h', toks := tk })
theorem Comp_core {elt target iter : Expr} {ifs : List Expr} {scope : Scope} {cl : List (Str × Addr)} {pos pos' : Pos} {Q : Value → Shared → Prop} {use : Option (Value → Sem Unit)} (hh : A.handled = none)
    (hclos : closureFor scope env = pure cl) (hcell : ∀ y ∈ scope.names, y.2 ≠ .cell) (hkind : scope.kind = .function)
    (hnames : ∀ y ∈ scope.names, y.2 = .local → scope.names.lookup y.1 = some .local)
    (h : wpAny (model prog w) A (eval iter env) (CompInU prog w A E env scope cl target elt ifs use Q) E s)
    (hs : ∀ x, foldedSetIterable iter env x = pure x := by intro _; rfl) :
    wpAny (model prog w) A (comprehension (.ListComp elt [⟨target, iter, ifs, 0⟩] scope pos) scope env pos' (newList []) false (eval iter env) use) Q E s := by
  refine wpAny_comprehension_free (use := use) rfl hs hclos hkind hnames (wpAny_mono h (fun xv s₁ h₁ => ?_) fun _ _ e => e)
  obtain ⟨l, items, rfl, hl, hsz, hgo, J, hJ, turn, done⟩ := h₁
  refine wpAny_pyIter_list hl ?_
  generalize hH1 : s₁.heap.push { cls := .type "list_iterator", data := .fields #[.ref l, .int 0 0] } = H1
  have hI0 : H1.IsListIter s₁.heap.objs.size l 0 := by subst hH1; exact ⟨_, Heap.get?_push_size _ rfl, rfl, rfl⟩
  have k1 : Keep s₁.heap H1 := by subst hH1; exact fun b o e => Heap.get?_push_of_some _ e
  have z1 : H1.objs.size = s₁.heap.objs.size + 1 := by subst hH1; rw [Heap.size_push]
  refine wpAny_newObj_type (wpAny_newFunctionEnv hcell (by intro y hy; simp at hy) (fun h₁ hns₁ hsb₁ => ?_) hkind)
  dsimp only at hns₁ hsb₁ ⊢
  generalize hH2 : H1.push { cls := .type "list", dict := none, data := .seq ([] : List Value).toArray } = H2 at hns₁ hsb₁ ⊢
  have zC : H2.objs.size = H1.objs.size + 1 := by rw [← hH2, Heap.size_push]
  have k2 : Keep H1 H2 := by subst hH2; exact fun b o e => Heap.get?_push_of_some _ e
  have k3 : ∀ b o, H2.get? b = some o → h₁.get? b = some o := fun b o e => hsb₁.extBut b o (Nat.ne_of_lt (Heap.lt_size e)) (Heap.get?_push_of_some _ e)
  have hD0 : H2.get? H1.objs.size = some (listOf #[] 0) := by subst hH2; exact Heap.get?_push_size _ rfl
  generalize hI : s₁.heap.objs.size = I at hI0 z1 ⊢
  generalize hD : H1.objs.size = D at z1 zC hD0 ⊢
  have hsb₂ := hsb₁
  generalize hC : H2.objs.size = C at zC hns₁ hsb₁ hsb₂ ⊢
  have hID : I ≠ D := by omega
  have hIC : I ≠ C := by omega
  have hDC : D ≠ C := by omega
  have fresh : ∀ a, I ≤ a → s₁.heap.get? a = none := fun a ha => by
    cases e : s₁.heap.get? a with
    | none => rfl
    | some o' =>
      have := Heap.lt_size e
      rw [hI] at this
      exact absurd this (Nat.not_lt_of_le ha)
  obtain ⟨hb, hhb⟩ : ∃ hb, hb = hideAll H2 [I, D] := ⟨_, rfl⟩
  have hbI : hb.get? I = none := by subst hhb; exact hideAll_none _ (.head _)
  have hbD : hb.get? D = none := by subst hhb; exact hideAll_none _ (.tail _ (.head _))
  have hbz : hb.objs.size = C := by subst hhb; rw [hideAll_size, hC]
  have kb : Keep s₁.heap hb := fun b o e => by
    subst hhb
    have hlt := Heap.lt_size e
    rw [hI] at hlt
    refine hideAll_get _ (k2 _ _ (k1 _ _ e)) fun hm => ?_
    simp only [List.mem_cons, List.not_mem_nil, or_false] at hm
    rcases hm with e' | e'
    · rw [e'] at hlt
      exact absurd hlt (Nat.lt_irrefl _)
    · rw [e', z1] at hlt
      exact absurd hlt (Nat.not_lt_of_le (Nat.le_succ _))
  have F0 : Fr hb C h₁ (fun x => List.lookup x ([] : List (Str × Value)).reverse) := ⟨hns₁, fun b o e => k3 b o (by subst hhb; exact of_hideAll _ e), Nat.le_of_eq hbz⟩
  have N0 : News hb C h₁ [(D, listOf ([] : List Value).toArray 0)] := fun p hp => by
    rw [List.mem_singleton] at hp
    subst hp
    exact ⟨k3 _ _ hD0, hDC, hbD⟩
  have hI1 : h₁.IsListIter I l 0 := by
    obtain ⟨o, ho, r⟩ := hI0
    exact ⟨o, k3 _ _ (k2 _ _ ho), r⟩
  have post : codeAny (model prog w) A (.compLoop (.ListComp elt [⟨target, iter, ifs, 0⟩] scope pos) 0 (.ref I) (.ref D) (compEnvC scope cl C env)) (compPost (model prog w) A E use Q (.ref D) C) { s₁ with heap := h₁, toks := s₁.toks + ([] : List (Str × Value)).length } := by
    refine compLoop_go (fun k s' => ∃ H tk mC ys nD news i, s' = { s₁ with heap := H, toks := tk } ∧ H.IsListIter I l i ∧ Fr hb C H mC ∧ News hb C H ((D, listOf ys.toArray nD) :: news) ∧ (∀ p ∈ news, p.1 ≠ I ∧ p.1 ≠ D) ∧ J i ys news ∧ ys.length ≤ i ∧ i ≤ items.size ∧ k = items.size + 1 - i) ?_ (items.size + 1)
      ⟨h₁, _, _, [], 0, [], 0, rfl, hI1, F0, N0, (fun _ h => by cases h), hJ, Nat.le_refl _, Nat.zero_le _, rfl⟩
    rintro k s' ⟨H, tk, mC, ys, nD, news, i, rfl, hI', F₁, N₁, hne, hJ₁, hyl, hi, rfl⟩
    have hl' : H.IsList l items := by
      obtain ⟨o, ho, r⟩ := hl
      exact ⟨o, F₁.keep _ _ (kb _ _ ho), r⟩
    by_cases hlt : i < items.size
    · have hx : items[i]? = some items[i] := by simp [hlt]
      refine wpAny_pyNext_list_item hI' hl' hx fun h₂ hI₂ hs₂ => ?_
      refine hgo I l (i + 1) _ _ _ _ (by simp) hI₂ ?_
      have F₂ : Fr hb C h₂ mC := ⟨F₁.ns.sameBut hs₂ (Ne.symm hIC), fun b o e => (hs₂.2 b (fun q => by rw [q, hbI] at e; cases e)).trans (F₁.keep b o e), F₁.above⟩
      have hnI : ∀ p ∈ (D, listOf ys.toArray nD) :: news, p.1 ≠ I := fun p hp => by
        rcases List.mem_cons.mp hp with rfl | hp
        · exact fun e => hID e.symm
        · exact (hne p hp).1
      have N₂ : News hb C h₂ ((D, listOf ys.toArray nD) :: news) := fun p hp => ⟨(hs₂.2 p.1 (hnI p hp)).trans (N₁ p hp).1, (N₁ p hp).2⟩
      obtain ⟨oI, hoI, hcI, hdI⟩ := id hI₂
      have N₃ : News hb C h₂ ((I, oI) :: (D, listOf ys.toArray nD) :: news) := by
        intro p hp
        rcases List.mem_cons.mp hp with rfl | hp
        · exact ⟨hoI, hIC, hbI⟩
        · exact N₂ p hp
      have fin : ∀ ys' s₃, ys'.length ≤ i + 1 → CompEnd s₁ hb C I D oI (listOf ys'.toArray nD) (J (i + 1) ys') s₃ → ∃ m, m < items.size + 1 - i ∧ ∃ H tk mC ys nD news i, s₃ = { s₁ with heap := H, toks := tk } ∧ H.IsListIter I l i ∧ Fr hb C H mC ∧ News hb C H ((D, listOf ys.toArray nD) :: news) ∧ (∀ p ∈ news, p.1 ≠ I ∧ p.1 ≠ D) ∧ J i ys news ∧ ys.length ≤ i ∧ i ≤ items.size ∧ m = items.size + 1 - i := by
        rintro ys' s₃ hy ⟨h3, tk3, m3, news3, rfl, F3, N3, hn3, J3⟩
        exact ⟨items.size + 1 - (i + 1), by omega, h3, tk3, m3, ys', nD, news3, i + 1, rfl, ⟨oI, (N3 _ (.head _)).1, hcI, hdI⟩, F3, fun p hp => N3 p (.tail _ hp), hn3, J3, hy, hlt, rfl⟩
      refine wpAny_mono (turn hb C D I oI i _ ys nD news mC h₂ _ _ kb hx hJ₁ F₂ N₃ hne hID) (fun _ s₂ h₂ => ?_) fun _ _ e => e
      refine wpAny_mono h₂ (fun ok s₃ h₃ => ?_) fun _ _ e => e
      cases ok with
      | false =>
        simp only [Bool.false_eq_true, if_false] at h₃ ⊢
        exact fin ys s₃ (by omega) h₃
      | true =>
        simp only [if_true] at h₃ ⊢
        refine wpAny_mono h₃ (fun y s₄ h₄ => ?_) fun _ _ e => e
        obtain ⟨h4, tk4, m4, news4, rfl, F4, N4, hn4, J4⟩ := h₄
        have hD4 : h4.PlainList D ys.toArray := ⟨nD, (N4 _ (.tail _ (.head _))).1⟩
        refine wpAny_list_append_plain (hsz := by rw [List.size_toArray]; omega) hD4 fun h5 hp5 hs5 => ?_
        obtain ⟨n5, hp5⟩ := hp5
        refine ⟨items.size + 1 - (i + 1), by omega, h5, tk4, m4, ys ++ [y], n5, news4, i + 1, rfl, ⟨oI, (hs5.2 I hID).trans (N4 _ (.head _)).1, hcI, hdI⟩, ⟨F4.ns.sameBut hs5 (Ne.symm hDC), fun b o e => (hs5.2 b (fun q => by rw [q, hbD] at e; cases e)).trans (F4.keep b o e), F4.above⟩, ?_, hn4, J4, by rw [List.length_append, List.length_singleton]; omega, hlt, rfl⟩
        intro p hp
        rcases List.mem_cons.mp hp with rfl | hp
        · exact ⟨by rw [hp5]; simp [W.listOf], hDC, hbD⟩
        · have := N4 p (.tail _ (.tail _ hp))
          exact ⟨(hs5.2 p.1 (hn4 p hp).2).trans this.1, this.2⟩
    · have hin : i = items.size := by omega
      subst hin
      refine wpAny_pyNext_list_end hh hI' hl' (by simp) fun h₂ hs₂ => ?_
      have up : ∀ b o, b ≠ I → H.get? b = some o → h₂.get? b = some o := fun b o hbI e => hs₂ b o hbI e
      have frb : ∀ b, hb.get? b = none → s₁.heap.get? b = none := fun b e => by
        cases q : s₁.heap.get? b with
        | none => rfl
        | some o => rw [kb _ _ q] at e; cases e
      refine done ys D nD news h₂ tk C mC hJ₁ (fun b o e => ?_) (fresh _ (by omega)) ?_ (fun p hp => ?_) (fresh _ (by omega)) (Ne.symm hDC) (F₁.ns.at' fun o e => hs₂ _ o (Ne.symm hIC) e)
      · have hb1 := kb _ _ e
        exact up b o (fun q => by rw [q, hbI] at hb1; cases hb1) (F₁.keep _ _ hb1)
      · exact up D _ (fun e => hID e.symm) (N₁ _ (.head _)).1
      · have := N₁ p (.tail _ hp)
        exact ⟨up _ _ (hne p hp).1 this.1, frb _ this.2.2, (hne p hp).2, this.2.1⟩
  exact codeAny_compStart_list post (wpAny_pyIter_listiter hI1 post)
theorem Comp_list {elt target iter : Expr} {ifs : List Expr} {scope : Scope} {cl : List (Str × Addr)} {pos : Pos} {Q : Value → Shared → Prop} (hh : A.handled = none)
    (hclos : closureFor scope env = pure cl) (hcell : ∀ y ∈ scope.names, y.2 ≠ .cell) (hkind : scope.kind = .function)
    (hnames : ∀ y ∈ scope.names, y.2 = .local → scope.names.lookup y.1 = some .local)
    (h : wpAny (model prog w) A (eval iter env) (CompIn prog w A env scope cl target elt ifs Q) E s)
    (hs : ∀ x, foldedSetIterable iter env x = pure x := by intro _; rfl) :
    wpAny (model prog w) A (eval (.ListComp elt [⟨target, iter, ifs, 0⟩] scope pos) env) Q E s := by
  rw [eval_ListComp]
  show wpAny _ A (comprehension (.ListComp elt [⟨target, iter, ifs, 0⟩] scope pos) scope env _ (newList []) false (eval iter env) none) _ _ s
  refine Comp_core hh hclos hcell hkind hnames (wpAny_mono h (fun xv s₁ h₁ => ?_) fun _ _ e => e) hs
  obtain ⟨l, items, rfl, hl, hsz, hgo, J, hJ, turn, done⟩ := h₁
  refine ⟨l, items, rfl, hl, hsz, hgo, J, hJ, turn, fun ys D nD news h' tk C mC hJ₁ kk hD hD' hnews hC hCD hns => ⟨mC, hns, fun h₃ hs₃ => ?_⟩⟩
  exact done ys D nD news h₃ tk hJ₁ (fun b o e => (hs₃.2 b (fun q => by rw [q, hC] at e; cases e)).trans (kk _ _ e)) hD ((hs₃.2 D (Ne.symm hCD)).trans hD') fun p hp => ⟨(hs₃.2 _ (hnews p hp).2.2.2).trans (hnews p hp).1, (hnews p hp).2.1, (hnews p hp).2.2.1⟩
/-- behind an assigned comprehension: a local name takes the list -/
theorem local_use {y : Str} {py : Pos} {Q : Value → Shared → Prop} {h₀ : Heap} {m mC : Str → Option Value} {news : List (Addr × Obj)} {v : Value} {C : Addr} (F : Fr h₀ env.locals s.heap m) (N : News h₀ env.locals s.heap news)
    (hy : env.kindOf y = some .local) (hp : (env.scope.kind == .class || (env.scope.kind == .module && env.locals != env.globals)) = false)
    (hCL : C ≠ env.locals) (hC₀ : h₀.get? C = none) (hCn : ∀ p ∈ news, p.1 ≠ C) (hns : s.heap.Ns C mC)
    (h : ∀ h' tk, Fr h₀ env.locals h' (fun z => if z = y then some v else m z) → News h₀ env.locals h' news → Q .none { s with heap := h', toks := tk }) :
    wpAny (model prog w) A (assign (.Name y py) env v) (fun _ s'' => ∃ m, s''.heap.Ns C m ∧ ∀ h', Heap.SameBut C s''.heap h' → Q Value.none { s'' with heap := h' }) E s := by
  have hL₀ : h₀.get? env.locals = none := Heap.get?_none_of_le F.above
  refine wpAny_assign_Name (wpAny_storeName_local hy F.ns (fun h₂ hn₂ hs₂ => ?_) hp)
  have F₂ : Fr h₀ env.locals h₂ (fun z => if z = y then some v else m z) := ⟨hn₂, fun b o e => hs₂.extBut b o (fun q => by rw [q, hL₀] at e; cases e) (F.keep b o e), F.above⟩
  refine ⟨mC, hns.sameBut hs₂ hCL, fun h'' hs'' => h h'' _ (F₂.change hs'' hCL hC₀) fun p hp => ⟨?_, (N p hp).2⟩⟩
  exact hs''.extBut _ _ (hCn p hp) (hs₂.extBut _ _ (N p hp).2.1 (N p hp).1)
/-- an assigned comprehension over a list -/
theorem Comp_assign {elt target iter : Expr} {ifs : List Expr} {y : Str} {py : Pos} {scope : Scope} {cl : List (Str × Addr)} {pos spos : Pos} {Q : Flow → Shared → Prop} (hh : A.handled = none)
    (hsw : swapsWith (.ListComp elt [⟨target, iter, ifs, 0⟩] scope pos) (some (.Name y py)) spos.line env = pure true)
    (hclos : closureFor scope env = pure cl) (hcell : ∀ y ∈ scope.names, y.2 ≠ .cell) (hkind : scope.kind = .function)
    (hnames : ∀ y ∈ scope.names, y.2 = .local → scope.names.lookup y.1 = some .local)
    (h : wpAny (model prog w) A (eval iter env) (CompInU prog w A E env scope cl target elt ifs (some (assign (.Name y py) env)) (fun _ s' => Q .next s')) E s)
    (hs : ∀ x, foldedSetIterable iter env x = pure x := by intro _; rfl) :
    wpAny (model prog w) A (exec (.Assign [.Name y py] (.ListComp elt [⟨target, iter, ifs, 0⟩] scope pos) spos) env) Q E s := by
  rw [exec_Assign_Name_used _ _ _ _ hsw]
  refine wpAny_bind (wpAny_standAt (wpAny_bind ?_))
  show wpAny _ A (do let _ ← comprehension (.ListComp elt [⟨target, iter, ifs, 0⟩] scope pos) scope env _ (newList []) false (eval iter env) (some (assign (.Name y py) env))) _ _ s
  exact wpAny_bind (wpAny_mono (Comp_core hh hclos hcell hkind hnames h hs) (fun _ s' hq => wpAny_pure (wpAny_pure hq)) fun _ _ e => e)
theorem name_assign {a : Str} {pa : Pos} {v : Value} {h₀ : Heap} {m : Str → Option Value} {news : List (Addr × Obj)} {Q : Unit → Shared → Prop} (F : Fr h₀ env.locals s.heap m) (N : News h₀ env.locals s.heap news)
    (ha : env.kindOf a = some .local) (hp : (env.scope.kind == .class || (env.scope.kind == .module && env.locals != env.globals)) = false)
    (h : ∀ h' : Heap, Fr h₀ env.locals h' (fun z => if z = a then some v else m z) → News h₀ env.locals h' news → Q () { s with heap := h', toks := s.toks + 1 }) :
    wpAny (model prog w) A (assign (.Name a pa) env v) Q E s :=
  wpAny_assign_Name (wpAny_storeName_local ha F.ns (fun h₂ hn₂ hs₂ => h h₂ ⟨hn₂, fun b o e => (hs₂.2 b (fun q => by
    subst q
    exact absurd (Nat.lt_of_lt_of_le (Heap.lt_size e) F.above) (Nat.lt_irrefl _))).trans (F.keep b o e), F.above⟩ fun p hp => ⟨(hs₂.2 p.1 (N p hp).2.1).trans (N p hp).1, (N p hp).2⟩) hp)
end
end Mine
namespace Mine
open PySem PySem.W PySem.Calls PySem.Spec PyProof.Rows
section
variable {prog : Program} {w : World} {A : Around} {E : Value → Shared → Prop} {s : Shared} {value slice : PySem.Expr} {x y z : PySem.Str} {t u v : Tok} {i k : Int} {Q : Value → Shared → Prop} {h₀ : Heap} {L : Addr} {m : PySem.Str → Option Value} {news : List (Addr × Obj)}
theorem find3_known (e : (Txt.find3 x z i : Int) = k) (h : ∀ t' j, Q (.int k t') { s with toks := j }) : wpAny (model prog w) A (call (.builtin "str.find") [.str x t, .str z u, .int i v]) Q E s := SC.find3 (by rw [e]; exact h _ _)
theorem split_known {a b c d e5 : PySem.Str} (e : Txt.split x y = [a, b, c, d, e5]) (hF : Fr h₀ L s.heap m) (hN : News h₀ L s.heap news) (hy : (y.length == 0) = false) (hx : x.length ≤ 1000)
    (h : ∀ D h' j ta tb tc td te, Fr h₀ L h' m → News h₀ L h' ((D, listOf #[.str a ta, .str b tb, .str c tc, .str d td, .str e5 te] 0) :: news) → (∀ p ∈ news, p.1 < D) → Q (.ref D) { s with heap := h', toks := j }) :
    wpAny (model prog w) A (call (.builtin "str.split") [.str x t, .str y u]) Q E s := by
  refine KSpl.split1 hF hN hy (fun D l h' j el _ F N lo => ?_) (by rw [sizeLine_eq]; omega)
  rw [e] at el
  obtain ⟨ta, l1, rfl, e1⟩ := KSpl.cons_of el
  obtain ⟨tb, l2, rfl, e2⟩ := KSpl.cons_of e1
  obtain ⟨tc, l3, rfl, e3⟩ := KSpl.cons_of e2
  obtain ⟨td, l4, rfl, e4⟩ := KSpl.cons_of e3
  obtain ⟨te, l5, rfl, e5⟩ := KSpl.cons_of e4
  have := KSpl.nil_of e5
  subst this
  exact h D h' j ta tb tc td te F N lo
theorem int_known (e : PySem.intText? x = some k) (hl : x.length ≤ 640) (h : ∀ t' j, Q (.int k t') { s with toks := j }) : wpAny (model prog w) A (call (.type "int") [.str x t]) Q E s :=
  PySem.W.KIN.call_text e hl (h _ _)
end
structure IsReply (resp : Str) (port r : Int) (a b c prt e5 : Str) : Prop where
  len : (resp.length : Int) = r + 1
  lo : 12 ≤ r
  hi : r ≤ 30
  s3 : Txt.slice resp none (some 3) = Str.ofString "229"
  f1 : Txt.find resp (Str.ofString "(") = 7
  f2 : Txt.find3 resp (Str.ofString ")") (7 + 1) = r
  i2 : Txt.item resp (7 + 1) = Txt.item resp (r - 1)
  sl : (Txt.slice resp (some (7 + 1)) (some r)).length ≤ 1000
  sp : Txt.split (Txt.slice resp (some (7 + 1)) (some r)) (Txt.item resp (7 + 1)) = [a, b, c, prt, e5]
  ml : ((Txt.item resp (7 + 1)).length == 0) = false
  it : PySem.intText? prt = some port
  pl : prt.length ≤ 640
theorem tup_base {h₀ h : Heap} {L a : Addr} {m : Str → Option Value} {vs : List Value} (F : Fr h₀ L h m) (e : h₀.get? a = some (tupO vs)) : IsTup h a vs.toArray := ⟨_, F.keep _ _ e, rfl, _, rfl⟩
end Mine
namespace Mine
open PySem PySem.W PySem.Calls PySem.Spec PyProof.Rows
/-- the k-th client's name of a port -/
noncomputable abbrev nmF (k port : Int) : Str := Txt.item (Str.ofString "pP") (Int.fmod k 2) ++ Str.ofString (toString port)
noncomputable abbrev lowF (port : Int) : Str := Str.ofString "p" ++ Str.ofString (toString port)
noncomputable abbrev ownF (k : Int) : Str := Txt.item (Str.ofString "abcde") k
noncomputable abbrev markF (k : Int) : Str := Txt.item (Str.ofString "|!") (Int.fmod k 2)
noncomputable abbrev replyF (k p : Int) : Str := Str.ofString "229 at (" ++ Txt.mul (markF k) 3 ++ Str.ofString (toString (6000 + p)) ++ markF k ++ Str.ofString ")"
noncomputable def Fine' (x : Str) : Bool := x.cps.toList.all fun c => decide (32 ≤ c ∧ c ≤ 126)
theorem fine_of {x : Str} (h : Fine' x = true) : Fine x := fun c hc => of_decide_eq_true (List.all_eq_true.mp h c hc)
noncomputable def nmOk (k p : Int) : Bool := (Txt.lower (nmF k p) == lowF p) && Fine' (nmF k p) && Fine' (lowF p) && decide ((nmF k p).length = 2) && decide ((lowF p).length = 2)
theorem nm_all : ∀ k : Fin 5, ∀ p : Fin 6, nmOk (k.1 : Int) (p.1 : Int) = true := by decide +kernel
theorem nm_ok {k p : Int} (h0 : 0 ≤ k) (h1 : k < 5) (p0 : 0 ≤ p) (p1 : p < 6) : nmOk k p = true := by
  obtain ⟨n, rfl⟩ := Int.eq_ofNat_of_zero_le h0
  obtain ⟨q, rfl⟩ := Int.eq_ofNat_of_zero_le p0
  exact nm_all ⟨n, by omega⟩ ⟨q, by omega⟩
theorem nm_facts {k p : Int} (h0 : 0 ≤ k) (h1 : k < 5) (p0 : 0 ≤ p) (p1 : p < 6) : Txt.lower (nmF k p) = lowF p ∧ Fine (nmF k p) ∧ Fine (lowF p) ∧ (nmF k p).length = 2 ∧ (lowF p).length = 2 := by
  have := nm_ok h0 h1 p0 p1
  unfold nmOk at this
  simp only [Bool.and_eq_true, beq_iff_eq, decide_eq_true_eq] at this
  obtain ⟨⟨⟨⟨a, b⟩, c⟩, d⟩, e⟩ := this
  exact ⟨a, fine_of b, fine_of c, d, e⟩
theorem low_all : ∀ p q : Fin 6, lowF (p.1 : Int) = lowF (q.1 : Int) → p = q := by decide +kernel
theorem low_inj {p q : Int} (p0 : 0 ≤ p) (p1 : p < 6) (q0 : 0 ≤ q) (q1 : q < 6) (h : lowF p = lowF q) : p = q := by
  obtain ⟨n, rfl⟩ := Int.eq_ofNat_of_zero_le p0
  obtain ⟨m, rfl⟩ := Int.eq_ofNat_of_zero_le q0
  have := low_all ⟨n, by omega⟩ ⟨m, by omega⟩ h
  have := congrArg Fin.val this
  simp only at this
  omega
theorem own_all : ∀ p q : Fin 5, ownF (p.1 : Int) = ownF (q.1 : Int) → p = q := by decide +kernel
theorem own_inj {p q : Int} (p0 : 0 ≤ p) (p1 : p < 5) (q0 : 0 ≤ q) (q1 : q < 5) (h : ownF p = ownF q) : p = q := by
  obtain ⟨n, rfl⟩ := Int.eq_ofNat_of_zero_le p0
  obtain ⟨m, rfl⟩ := Int.eq_ofNat_of_zero_le q0
  have := own_all ⟨n, by omega⟩ ⟨m, by omega⟩ h
  have := congrArg Fin.val this
  simp only at this
  omega
noncomputable def replyOk (k p : Int) : Bool :=
  let resp := replyF k p
  decide ((resp.length : Int) = 16 + 1) && (Txt.slice resp none (some 3) == Str.ofString "229") && decide (Txt.find resp (Str.ofString "(") = 7) && decide (Txt.find3 resp (Str.ofString ")") (7 + 1) = 16) &&
    (Txt.item resp (7 + 1) == Txt.item resp (16 - 1)) && decide ((Txt.slice resp (some (7 + 1)) (some 16)).length ≤ 1000) && (Txt.split (Txt.slice resp (some (7 + 1)) (some 16)) (Txt.item resp (7 + 1)) == [Str.ofString "", Str.ofString "", Str.ofString "", Str.ofString (toString (6000 + p)), Str.ofString ""]) &&
    (!(Txt.item resp (7 + 1)).length == 0) && decide (PySem.intText? (Str.ofString (toString (6000 + p))) = some (6000 + p)) && decide ((Str.ofString (toString (6000 + p))).length ≤ 640) && decide (resp.length = 17) && Fine' (ownF k) && decide ((ownF k).length = 1) && decide ((markF k).length = 1)
theorem reply_all : ∀ k : Fin 5, ∀ p : Fin 6, replyOk (k.1 : Int) (p.1 : Int) = true := by decide +kernel
theorem reply_ok {k p : Int} (h0 : 0 ≤ k) (h1 : k < 5) (p0 : 0 ≤ p) (p1 : p < 6) : replyOk k p = true := by
  obtain ⟨n, rfl⟩ := Int.eq_ofNat_of_zero_le h0
  obtain ⟨q, rfl⟩ := Int.eq_ofNat_of_zero_le p0
  exact reply_all ⟨n, by omega⟩ ⟨q, by omega⟩
theorem reply_facts {k p : Int} (h0 : 0 ≤ k) (h1 : k < 5) (p0 : 0 ≤ p) (p1 : p < 6) : IsReply (replyF k p) (6000 + p) 16 (Str.ofString "") (Str.ofString "") (Str.ofString "") (Str.ofString (toString (6000 + p))) (Str.ofString "") := by
  have := reply_ok h0 h1 p0 p1
  unfold replyOk at this
  simp only [Bool.and_eq_true, beq_iff_eq, decide_eq_true_eq] at this
  obtain ⟨⟨⟨⟨⟨⟨⟨⟨⟨⟨⟨⟨⟨a1, a2⟩, a3⟩, a4⟩, a5⟩, a6⟩, a7⟩, a8⟩, a9⟩, a10⟩, a11⟩, a12⟩, a13⟩, a14⟩ := this
  exact ⟨a1, by decide, by decide, a2, a3, a4, a5, a6, a7, by simpa using a8, a9, a10⟩
theorem own_facts {k : Int} (h0 : 0 ≤ k) (h1 : k < 5) : Fine (ownF k) ∧ (ownF k).length = 1 ∧ (markF k).length = 1 := by
  have := reply_ok h0 h1 (p := 0) (by decide) (by decide)
  unfold replyOk at this
  simp only [Bool.and_eq_true, beq_iff_eq, decide_eq_true_eq] at this
  exact ⟨fine_of this.1.1.2, this.1.2, this.2⟩
end Mine
namespace Mine
open PySem PySem.W PySem.Calls PySem.Spec PyProof.Rows
/-- the place that a wish gets: the first free one from p on round the ring -/
noncomputable def probeF (size : Int) (taken : List Int) : Nat → Int → Int
  | 0, p => p
  | f + 1, p => if p ∈ taken then probeF size taken f (Int.fmod (p + 1) size) else p
noncomputable def seatsF (size : Int) : List Int → List Int → List Int
  | taken, [] => taken
  | taken, w :: ws => seatsF size (taken ++ [probeF size taken 6 w]) ws
/-- where the first i clients stand -/
noncomputable def standsF (turn size : Int) (ws : List Int) (i : Nat) : List Int := seatsF size [] ((ws.take i).map fun a => Int.fmod (a + turn) size)
/-- the table's items behind i clients -/
noncomputable def entF (turn size : Int) (ws : List Int) (i : Nat) : List (Str × Str) := (standsF turn size ws i).zipIdx.map fun p => (nmF (p.2 : Int) p.1, ownF (p.2 : Int))
end Mine
namespace Mine
open PySem PySem.W PySem.Calls PySem.Spec PyProof.Rows
theorem fmod_lo {a b : Int} (h : 0 < b) : 0 ≤ a.fmod b := by rw [Int.fmod_eq_emod_of_nonneg _ (Int.le_of_lt h)]; exact Int.emod_nonneg _ (by omega)
theorem fmod_hi {a b : Int} (h : 0 < b) : a.fmod b < b := by rw [Int.fmod_eq_emod_of_nonneg _ (Int.le_of_lt h)]; exact Int.emod_lt_of_pos _ h
theorem nodup_len : ∀ (xs ys : List Int), xs.Nodup → (∀ x ∈ xs, x ∈ ys) → xs.length ≤ ys.length
  | [], _, _, _ => Nat.zero_le _
  | x :: xs, ys, hn, h => by
    have hx : x ∈ ys := h x (.head _)
    have := nodup_len xs (ys.erase x) (List.nodup_cons.mp hn).2 fun y hy => by
      have hne : y ≠ x := by rintro rfl; exact (List.nodup_cons.mp hn).1 hy
      exact (List.mem_erase_of_ne hne).mpr (h y (.tail _ hy))
    rw [List.length_erase_of_mem hx] at this
    have : 0 < ys.length := List.length_pos_of_mem hx
    simp only [List.length_cons]
    omega
theorem probe_range {size : Int} (hs : 0 < size) {T : List Int} : ∀ (f : Nat) {p : Int}, 0 ≤ p → p < size → 0 ≤ probeF size T f p ∧ probeF size T f p < size
  | 0, _, a, b => ⟨a, b⟩
  | f + 1, p, a, b => by
    unfold probeF
    split
    · exact probe_range hs f (fmod_lo hs) (fmod_hi hs)
    · exact ⟨a, b⟩
theorem probe_all {size : Int} {T : List Int} : ∀ (f : Nat) {p : Int}, probeF size T f p ∈ T → ∀ j : Nat, j ≤ f → (j = 0 ∧ p ∈ T) ∨ (0 < j ∧ Int.fmod (p + j) size ∈ T)
  | 0, p, h, j, hj => .inl ⟨by omega, h⟩
  | f + 1, p, h, j, hj => by
    unfold probeF at h
    split at h
    · rename_i hp
      rcases j with _ | j
      · exact .inl ⟨rfl, hp⟩
      · refine .inr ⟨by omega, ?_⟩
        rcases probe_all f h j (by omega) with ⟨rfl, hq⟩ | ⟨_, hq⟩
        · simpa using hq
        · rw [show p + ((j + 1 : Nat) : Int) = (p + 1) + j from by omega]
          have e : (Int.fmod (p + 1) size + (j : Int)).fmod size = (p + 1 + j).fmod size := by simp
          rw [← e]
          exact hq
    · rename_i hp
      exact absurd h hp
/-- a free place is always found -/
theorem probe_free {size : Int} (h5 : 5 ≤ size) (h6 : size ≤ 6) {T : List Int} (hT : (T.length : Int) < size) {p : Int} (p0 : 0 ≤ p) (p1 : p < size) : probeF size T 6 p ∉ T := by
  intro h
  have all : ∀ q : Int, 0 ≤ q → q < size → q ∈ T := by
    intro q q0 q1
    by_cases hq : p ≤ q
    · rcases probe_all 6 h (q - p).toNat (by omega) with ⟨e, hp⟩ | ⟨_, hp⟩
      · have : q = p := by omega
        rwa [this]
      · rw [show p + (((q - p).toNat : Nat) : Int) = q from by omega, Int.fmod_eq_of_lt q0 q1] at hp
        exact hp
    · rcases probe_all 6 h (q - p + size).toNat (by omega) with ⟨e, hp⟩ | ⟨_, hp⟩
      · omega
      · rw [show p + (((q - p + size).toNat : Nat) : Int) = q + size from by omega, Int.add_fmod_right, Int.fmod_eq_of_lt q0 q1] at hp
        exact hp
  have := nodup_len ((List.range size.toNat).map fun n : Nat => (n : Int)) T ?_ ?_
  · simp only [List.length_map, List.length_range] at this
    omega
  · unfold List.Nodup
    rw [List.pairwise_map]
    exact List.Pairwise.imp (fun h => by omega) (List.nodup_range (n := size.toNat))
  · intro x hx
    obtain ⟨n, hn, rfl⟩ := List.mem_map.mp hx
    rw [List.mem_range] at hn
    exact all _ (by omega) (by omega)
theorem seats_snoc {size w : Int} : ∀ (ws T : List Int), seatsF size T (ws ++ [w]) = seatsF size T ws ++ [probeF size (seatsF size T ws) 6 w]
  | [], _ => rfl
  | _ :: ws, _ => seats_snoc ws _
theorem seats_len {size : Int} : ∀ (ws T : List Int), (seatsF size T ws).length = T.length + ws.length
  | [], _ => rfl
  | _ :: ws, T => by
    unfold seatsF
    rw [seats_len ws]
    simp only [List.length_append, List.length_cons, List.length_nil]
    omega
theorem seats_range {size : Int} (hs : 0 < size) : ∀ (ws T : List Int), (∀ a ∈ ws, 0 ≤ a ∧ a < size) → (∀ a ∈ T, 0 ≤ a ∧ a < size) → ∀ a ∈ seatsF size T ws, 0 ≤ a ∧ a < size
  | [], _, _, h => h
  | w :: ws, T, hw, h => by
    unfold seatsF
    refine seats_range hs ws _ (fun a ha => hw a (.tail _ ha)) fun a ha => ?_
    rcases List.mem_append.mp ha with ha | ha
    · exact h a ha
    · rw [List.mem_singleton] at ha
      subst ha
      exact probe_range hs 6 (hw w (.head _)).1 (hw w (.head _)).2
section
variable {turn size : Int} {ws : List Int} {i : Nat}
theorem stands_len (hi : i ≤ ws.length) : (standsF turn size ws i).length = i := by
  unfold standsF
  rw [seats_len]
  simp only [List.length_map, List.length_take, List.length_nil]
  omega
theorem stands_range (hs : 0 < size) : ∀ a ∈ standsF turn size ws i, 0 ≤ a ∧ a < size := by
  refine seats_range hs _ _ (fun a ha => ?_) (fun _ h => by cases h)
  obtain ⟨b, _, rfl⟩ := List.mem_map.mp ha
  exact ⟨fmod_lo hs, fmod_hi hs⟩
theorem stands_succ (hi : i < ws.length) : standsF turn size ws (i + 1) = standsF turn size ws i ++ [probeF size (standsF turn size ws i) 6 (Int.fmod (ws.getD i 0 + turn) size)] := by
  unfold standsF
  rw [List.take_succ_eq_append_getElem hi, List.map_append, List.map_singleton, seats_snoc]
  simp [List.getD, hi]
theorem ent_len (hi : i ≤ ws.length) : (entF turn size ws i).length = i := by
  unfold entF
  rw [List.length_map, List.length_zipIdx, stands_len hi]
theorem ent_succ (hi : i < ws.length) : entF turn size ws (i + 1) = entF turn size ws i ++ [(nmF (i : Int) (probeF size (standsF turn size ws i) 6 (Int.fmod (ws.getD i 0 + turn) size)), ownF (i : Int))] := by
  unfold entF
  rw [stands_succ hi, List.zipIdx_append, List.map_append, stands_len (Nat.le_of_lt hi)]
  simp
theorem ent_mem (hs0 : 5 ≤ size) (hs1 : size ≤ 6) (hi : i ≤ ws.length) (hi5 : i ≤ 5) {e : Str × Str} (he : e ∈ entF turn size ws i) : ∃ (j : Nat) (q : Int), j < i ∧ 0 ≤ q ∧ q < size ∧ q ∈ standsF turn size ws i ∧ e = (nmF (j : Int) q, ownF (j : Int)) := by
  unfold entF at he
  obtain ⟨⟨q, j⟩, hm, rfl⟩ := List.mem_map.mp he
  have h1 := List.mem_zipIdx hm
  obtain ⟨_, h2, h3⟩ := h1
  rw [stands_len hi] at h2
  have hq : q ∈ standsF turn size ws i := by rw [h3]; exact List.getElem_mem _
  have := stands_range (by omega) q hq
  exact ⟨j, q, by omega, this.1, this.2, hq, rfl⟩
theorem ent_small (hs0 : 5 ≤ size) (hs1 : size ≤ 6) (hi : i ≤ ws.length) (hi5 : i ≤ 5) : ∀ e ∈ entF turn size ws i, e.1.length ≤ 1000 := by
  intro e he
  obtain ⟨j, q, hj, q0, q1, _, rfl⟩ := ent_mem hs0 hs1 hi hi5 he
  rw [(nm_facts (k := (j : Int)) (p := q) (by omega) (by omega) q0 (by omega)).2.2.2.1]
  omega
theorem ent_find_none (hs0 : 5 ≤ size) (hs1 : size ≤ 6) (hi : i ≤ ws.length) (hi5 : i ≤ 5) {q : Int} (q0 : 0 ≤ q) (q1 : q < size) (h : (entF turn size ws i).find? (fun e => Txt.lower e.1 == lowF q) = none) : q ∉ standsF turn size ws i := by
  intro hq
  obtain ⟨j, hj, hg⟩ := List.mem_iff_getElem.mp hq
  rw [stands_len hi] at hj
  rw [List.find?_eq_none] at h
  have hm : (nmF (j : Int) q, ownF (j : Int)) ∈ entF turn size ws i := by
    unfold entF
    refine List.mem_map.mpr ⟨(q, j), ?_, rfl⟩
    rw [List.mem_iff_getElem]
    refine ⟨j, by rw [List.length_zipIdx, stands_len hi]; exact hj, ?_⟩
    rw [List.getElem_zipIdx]
    simp [hg]
  have := h _ hm
  rw [(nm_facts (k := (j : Int)) (p := q) (by omega) (by omega) q0 (by omega)).1] at this
  simp at this
theorem ent_find_some (hs0 : 5 ≤ size) (hs1 : size ≤ 6) (hi : i ≤ ws.length) (hi5 : i < 5) {q : Int} (q0 : 0 ≤ q) (q1 : q < size) {e : Str × Str} (h : (entF turn size ws i).find? (fun e => Txt.lower e.1 == lowF q) = some e) : q ∈ standsF turn size ws i ∧ e.2 ≠ ownF (i : Int) ∧ e.2.length = 1 := by
  have he := List.mem_of_find?_eq_some h
  have hl := List.find?_some h
  obtain ⟨j, r, hj, r0, r1, hr, rfl⟩ := ent_mem hs0 hs1 hi (by omega) he
  simp only [beq_iff_eq] at hl
  rw [(nm_facts (k := (j : Int)) (p := r) (by omega) (by omega) r0 (by omega)).1] at hl
  have := low_inj r0 (by omega) q0 (by omega) hl
  subst this
  refine ⟨hr, fun e => ?_, (own_facts (k := (j : Int)) (by omega) (by omega)).2.1⟩
  have := own_inj (by omega) (by omega) (by omega) (by omega) e
  omega
end
section
variable {h₀ h h' : Heap} {L x d l a C : Addr} {P : Params} {tk0 t2 t3 : Tok} {nL n' : Nat} {tups : List (Addr × Obj)} {es : List (Str × Str)} {g : Addr × Obj} {m : Str → Option Value} {nm v : Str}
theorem news_one {news : List (Addr × Obj)} {o : Obj} (N : News h₀ L h news) (hm : (l, o) ∈ news) : News h₀ L h [(l, o)] := fun p hp => by
  rw [List.mem_singleton] at hp
  subst hp
  exact N _ hm
theorem TupsOf.cls : ∀ {ps : List (Addr × Obj)} {es : List (Str × Str)}, TupsOf ps es → ∀ p ∈ ps, p.2.cls = .type "tuple"
  | [], [], _, _, hp => by cases hp
  | q :: ps, e :: es, ⟨⟨ta, tb, hq⟩, t⟩, p, hp => by
    rcases List.mem_cons.mp hp with rfl | hp
    · rw [hq]
    · exact TupsOf.cls t p hp
theorem app_facts (F : Fr h₀ L h m) (N : News h₀ L h (g :: tabL C P x d l tk0 nL tups)) (hT : TupsOf tups es) (hg : ∀ p ∈ tabL C P x d l tk0 nL tups, p.1 ≠ g.1) (k : KeepBut l h h') (ha : h.get? a = none)
    (ha' : h'.get? a = some (tupO [.str nm t2, .str v t3])) (hl : h'.get? l = some (lstO (tups.map (fun p => Value.ref p.1) ++ [.ref a]) n')) :
    Fr h₀ L h' m ∧ News h₀ L h' (g :: tabL C P x d l tk0 n' (tups ++ [(a, tupO [.str nm t2, .str v t3])])) ∧ TupsOf (tups ++ [(a, tupO [.str nm t2, .str v t3])]) (es ++ [(nm, v)]) ∧ ∀ p ∈ tabL C P x d l tk0 n' (tups ++ [(a, tupO [.str nm t2, .str v t3])]), p.1 ≠ g.1 := by
  have Nl := N _ (.tail _ (.tail _ (.tail _ (.head _))))
  have hne : ∀ b o, h.get? b = some o → (o.cls == Value.type "list") = false → b ≠ l := fun b o e hc => addr_ne e Nl.1 hc
  have hb0 : ∀ b o, h₀.get? b = some o → b ≠ l := fun b o e => by
    rintro rfl
    rw [Nl.2.2] at e
    cases e
  have hgl : g.1 ≠ l := fun e => hg _ (.tail _ (.tail _ (.head _))) e.symm
  have hav : a ≠ L ∧ h₀.get? a = none := by
    refine ⟨fun e => ?_, ?_⟩
    · obtain ⟨oL, _, _, hL, _⟩ := F.ns
      subst e
      rw [hL] at ha; cases ha
    · cases q : h₀.get? a with
      | none => rfl
      | some o' => rw [F.keep _ _ q] at ha; cases ha
  refine ⟨⟨F.ns.at' fun o e => k _ o (fun q => Nl.2.1 q.symm) e, fun b o e => k b o (hb0 b o e) (F.keep b o e), F.above⟩, ?_, TupsOf.snoc hT, ?_⟩
  · intro p hp
    rcases List.mem_cons.mp hp with rfl | hp
    · exact ⟨k _ _ hgl (N _ (.head _)).1, (N _ (.head _)).2⟩
    rcases List.mem_cons.mp hp with rfl | hp
    · have := N _ (.tail _ (.head _))
      exact ⟨k _ _ (hne _ _ this.1 rfl) this.1, this.2⟩
    rcases List.mem_cons.mp hp with rfl | hp
    · have := N _ (.tail _ (.tail _ (.head _)))
      exact ⟨k _ _ (hne _ _ this.1 rfl) this.1, this.2⟩
    rcases List.mem_cons.mp hp with rfl | hp
    · refine ⟨?_, Nl.2⟩
      rw [hl]
      simp
    rcases List.mem_append.mp hp with hp | hp
    · have := N p (.tail _ (.tail _ (.tail _ (.tail _ hp))))
      refine ⟨k _ _ (hne _ _ this.1 ?_) this.1, this.2⟩
      rw [TupsOf.cls hT p hp]
      rfl
    · rw [List.mem_singleton] at hp
      subst hp
      exact ⟨ha', hav.1, hav.2⟩
  · intro p hp
    rcases List.mem_cons.mp hp with rfl | hp
    · exact hg _ (.head _)
    rcases List.mem_cons.mp hp with rfl | hp
    · exact hg _ (.tail _ (.head _))
    rcases List.mem_cons.mp hp with rfl | hp
    · exact fun e => hgl e.symm
    rcases List.mem_append.mp hp with hp | hp
    · exact hg p (.tail _ (.tail _ (.tail _ hp)))
    · rw [List.mem_singleton] at hp
      subst hp
      rintro rfl
      have := N _ (.head _)
      rw [this.1] at ha
      cases ha
end
end Mine
namespace Mine
open PySem PySem.W PySem.Calls PySem.Spec PyProof.Rows
noncomputable def tailOk (k p : Int) : Bool := (Txt.slice (nmF k p) (some 1) none == Str.ofString (toString p)) && decide (PySem.intText? (Str.ofString (toString p)) = some p) && decide ((Str.ofString (toString p)).length ≤ 640)
theorem tail_all : ∀ k : Fin 5, ∀ p : Fin 6, tailOk (k.1 : Int) (p.1 : Int) = true := by decide +kernel
theorem tail_facts {k p : Int} (h0 : 0 ≤ k) (h1 : k < 5) (p0 : 0 ≤ p) (p1 : p < 6) : Txt.slice (nmF k p) (some 1) none = Str.ofString (toString p) ∧ PySem.intText? (Str.ofString (toString p)) = some p ∧ (Str.ofString (toString p)).length ≤ 640 := by
  obtain ⟨n, rfl⟩ := Int.eq_ofNat_of_zero_le h0
  obtain ⟨q, rfl⟩ := Int.eq_ofNat_of_zero_le p0
  have := tail_all ⟨n, by omega⟩ ⟨q, by omega⟩
  unfold tailOk at this
  simp only [Bool.and_eq_true, beq_iff_eq, decide_eq_true_eq] at this
  exact ⟨this.1.1, this.1.2, this.2⟩
/-- the table's names tell these ports -/
noncomputable def PortsOf (es : List (Str × Str)) (ps : List Int) : Prop := es.length = ps.length ∧ ∀ (i : Nat) (e : Str × Str), es[i]? = some e → ∃ k p : Int, 0 ≤ k ∧ k < 5 ∧ 0 ≤ p ∧ p < 6 ∧ ps[i]? = some p ∧ e.1 = nmF k p
end Mine
namespace Mine
open PySem PySem.W PySem.Calls PySem.Spec PyProof.Rows
/-- the frame is m but x is v, and these names are any -/
noncomputable def Sh (x : Str) (names : List Str) (m : Str → Option Value) (v : Value) (m' : Str → Option Value) : Prop := ∃ f, m' = fun y => if y = x then some v else over names f m y
section
variable {x z : Str} {names : List Str} {m m' : Str → Option Value} {v v' : Value}
theorem Sh.base (h : m x = some v) : Sh x names m v m := by
  obtain ⟨f, hf⟩ := over_refl (names := names) (m := m)
  refine ⟨f, ?_⟩
  funext y
  rw [← hf]
  by_cases e : y = x
  · subst e; show m y = _; simp only [if_true]; exact h
  · simp only [if_neg e]
noncomputable def Ov (names : List Str) (m m' : Str → Option Value) : Prop := ∃ f, m' = over names f m
theorem Ov.refl : Ov names m m := over_refl
theorem Ov.put (hz : names.contains z = true) (h : Ov names m m') : Ov names m (fun y => if y = z then some v' else m' y) := by
  obtain ⟨f, rfl⟩ := h
  exact over_of fun y hy => by
    have : y ≠ z := by rintro rfl; rw [hz] at hy; cases hy
    simp only [if_neg this]
    exact over_off hy
theorem Ov.over {names' : List Str} {g : Str → Option Value} (hz : (names'.all fun z => names.contains z) = true) (h : Ov names m m') : Ov names m (over names' g m') := by
  obtain ⟨f, rfl⟩ := h
  exact over_of fun y hy => by
    have : names'.contains y = false := by
      cases q : names'.contains y with
      | false => rfl
      | true =>
        rw [List.all_eq_true] at hz
        rw [hz y (by simpa using q)] at hy
        cases hy
    rw [over_off this, over_off hy]
theorem Sh.put (h : Ov (x :: names) m m') : Sh x names m v' (fun y => if y = x then some v' else m' y) := by
  obtain ⟨f, rfl⟩ := h
  refine ⟨f, ?_⟩
  funext y
  by_cases e : y = x
  · simp only [if_pos e]
  · simp only [if_neg e]
    unfold Mine.over
    simp [e]
theorem Sh.skip (hz : names.contains z = true) (hx : (z == x) = false) (h : Sh x names m v m') : Sh x names m v (fun y => if y = z then some v' else m' y) := by
  obtain ⟨f, rfl⟩ := h
  obtain ⟨g, hg⟩ := over_of (names := names) (m := m) (m' := fun y => if y = z then some v' else over names f m y) fun y hy => by
    have : y ≠ z := by rintro rfl; rw [hz] at hy; cases hy
    simp only [if_neg this]
    exact over_off hy
  refine ⟨g, ?_⟩
  rw [← hg]
  funext y
  have hx' : z ≠ x := by simpa using hx
  by_cases e : y = x
  · subst e
    simp only [if_true, if_neg (Ne.symm hx')]
  · by_cases e' : y = z
    · simp only [if_neg e, if_pos e']
    · simp only [if_neg e, if_neg e']
theorem Sh.over {names' : List Str} {g : Str → Option Value} (hz : (names'.all fun z => names.contains z) = true) (hx : names'.contains x = false) (h : Sh x names m v m') : Sh x names m v (over names' g m') := by
  obtain ⟨f, rfl⟩ := h
  obtain ⟨g', hg⟩ := over_of (names := names) (m := m) (m' := over names' g (over names f m)) fun y hy => by
    have : names'.contains y = false := by
      cases q : names'.contains y with
      | false => rfl
      | true =>
        rw [List.all_eq_true] at hz
        rw [hz y (by simpa using q)] at hy
        cases hy
    rw [over_off this, over_off hy]
  refine ⟨g', ?_⟩
  rw [← hg]
  funext y
  by_cases e : y = x
  · subst e
    rw [over_off hx]
    simp only [if_true]
  · simp only [if_neg e]
    unfold Mine.over
    simp only [if_neg e]
theorem Sh.val (e : v = v') (h : Sh x names m v m') : Sh x names m v' m' := e ▸ h
end
theorem int_eq {a b : Int} {t : Tok} (h : a = b) : Value.int a t = Value.int b t := h ▸ rfl
theorem ints_len : ∀ {vs : List Value} {ys : List Int}, IntsAre vs ys → vs.length = ys.length
  | _, _, .nil => rfl
  | _, _, .cons _ _ h => by rw [List.length_cons, List.length_cons, ints_len h]
theorem ints_at : ∀ {vs : List Value} {ys : List Int} {i : Nat} {v : Value}, IntsAre vs ys → vs[i]? = some v → ∃ x t, ys[i]? = some x ∧ v = .int x t
  | _, _, 0, _, .cons x t _, e => by simp at e; exact ⟨x, t, rfl, e.symm⟩
  | _, _, i + 1, _, .cons _ _ h, e => by
    obtain ⟨x, t, a, b⟩ := ints_at h (i := i) (by simpa using e)
    exact ⟨x, t, by simpa using a, b⟩
theorem name_cell {M : Model} {A : Around} {E : Value → Shared → Prop} {s : Shared} {h₀ : Heap} {L : Addr} {m : Str → Option Value} {env : Env} {x : Str} {pos : Pos} {v : Value} {Q : Value → Shared → Prop} {c : Addr} {o : Obj}
    (F : Fr h₀ L s.heap m) (hx : env.kindOf x = some .cell) (hk : env.scope.kind = .function) (hb : (x == ("__debug__" : Str)) = false) (hc : env.cells.lookup x = some c) (hg : h₀.get? c = some o) (hd : o.data = .cell (some v)) (h : Q v s) :
    wpAny M A (eval (.Name x pos) env) Q E s := wpAny_Name (wpAny_loadName_cell hk hx hc ⟨o, F.keep _ _ hg, hd⟩ h) hb
theorem lst_len {prog : Program} {w : World} {A : Around} {E : Value → Shared → Prop} {s : Shared} {Q : Value → Shared → Prop} {h₀ : Heap} {L D : Addr} {news : List (Addr × Obj)} {vs : List Value} {n : Nat} {cs : List Int}
    (N : News h₀ L s.heap news) (hm : (D, lstO vs n) ∈ news) (hi : IntsAre vs cs) (hz : cs.length ≤ 16384) (h : Q (.int cs.length (s.toks + 1)) { s with toks := s.toks + 1 + 1 }) : wpAny (model prog w) A (call (.builtin "len") [.ref D]) Q E s :=
  len_list (items := vs.toArray) ⟨_, (N _ hm).1, rfl, _, rfl⟩ (by rw [List.size_toArray, ints_len hi]; omega) (by rw [List.size_toArray, ints_len hi]; exact h)
/-- how often the wishes lie in the n ports up to this one -/
noncomputable def cntF (ws : List Int) (port size : Int) (n : Int) : Nat := (ws.filter fun w => decide (Int.fmod (port - w) size < n)).length
noncomputable def takenF (ws : List Int) (port size : Int) : Bool := (List.range size.toNat).any fun j => decide (1 + (j : Int) ≤ (cntF ws port size (1 + (j : Int)) : Int))
/-- a client's crossings, its first n steps -/
noncomputable def wentIn (w size tab : Int) : Nat → Int
  | 0 => 0
  | n + 1 => wentIn w size tab n + if Int.fmod (w + (1 + (n : Int))) size = 0 then - Int.fdiv (size - 1) tab else if Int.fmod (Int.fmod (w + (1 + (n : Int))) size) tab = 0 then 1 else 0
noncomputable def wentF (ws ss : List Int) (tab size : Int) : Nat → Int
  | 0 => 0
  | k + 1 => wentF ws ss tab size k + wentIn (ws.getD k 0) size tab (Int.fmod (ss.getD k 0 - ws.getD k 0) size).toNat
theorem wentIn_succ {w size tab : Int} {n : Nat} : wentIn w size tab (n + 1) = wentIn w size tab n + if Int.fmod (w + (1 + (n : Int))) size = 0 then - Int.fdiv (size - 1) tab else if Int.fmod (Int.fmod (w + (1 + (n : Int))) size) tab = 0 then 1 else 0 := rfl
theorem wentF_succ {ws ss : List Int} {tab size : Int} {k : Nat} : wentF ws ss tab size (k + 1) = wentF ws ss tab size k + wentIn (ws.getD k 0) size tab (Int.fmod (ss.getD k 0 - ws.getD k 0) size).toNat := rfl
end Mine
namespace Mine
open PySem PySem.W PySem.Calls PySem.Spec PyProof.Rows
noncomputable def rawF (ns : List Int) (size : Int) : List Int := (ns ++ List.drop (↑ns.length : Int).toNat [3, 0, 3, 3]).take (size - 1).toNat
noncomputable def wishF (ns : List Int) (size : Int) : List Int := (rawF ns size).map fun x => Int.fmod x size
theorem raw_len {ns : List Int} {sz : Int} (h : sz = if 5 ≤ ns.length then 6 else 5) : ((rawF ns sz).length : Int) = sz - 1 := by
  unfold rawF
  rw [List.length_take, List.length_append, List.length_drop]
  split at h <;> subst h <;> simp only [List.length_cons, List.length_nil] <;> omega
theorem wish_len {ns : List Int} {sz : Int} (h : sz = if 5 ≤ ns.length then 6 else 5) : ((wishF ns sz).length : Int) = sz - 1 := by
  unfold wishF
  rw [List.length_map]
  exact raw_len h
theorem wish_range {ns : List Int} {sz : Int} (h : 0 < sz) : ∀ a ∈ wishF ns sz, 0 ≤ a ∧ a < sz := by
  intro a ha
  unfold wishF at ha
  obtain ⟨x, _, rfl⟩ := List.mem_map.mp ha
  exact ⟨fmod_lo h, fmod_hi h⟩
noncomputable def portsIn (ws : List Int) (size : Int) (ps : List Int) : Nat → List Int
  | 0 => ps
  | j + 1 => if (!(portsIn ws size ps j).any fun x => x == (j : Int)) && takenF ws j size then portsIn ws size ps j ++ [(j : Int)] else portsIn ws size ps j
noncomputable def portsF (ws : List Int) (size : Int) : Nat → List Int
  | 0 => []
  | k + 1 => portsIn (ws.take (k + 1)) size (portsF ws size k) size.toNat
theorem portsIn_has {ws : List Int} {size : Int} {ps : List Int} {j : Nat} (h : ((portsIn ws size ps j).any fun x => x == (j : Int)) = true) : portsIn ws size ps (j + 1) = portsIn ws size ps j := by
  simp [portsIn, h]
theorem portsIn_new {ws : List Int} {size : Int} {ps : List Int} {j : Nat} (h : ((portsIn ws size ps j).any fun x => x == (j : Int)) = false) (ht : takenF ws j size = true) : portsIn ws size ps (j + 1) = portsIn ws size ps j ++ [(j : Int)] := by
  simp [portsIn, h, ht]
theorem portsIn_not {ws : List Int} {size : Int} {ps : List Int} {j : Nat} (ht : takenF ws j size = false) : portsIn ws size ps (j + 1) = portsIn ws size ps j := by
  simp [portsIn, ht]
theorem portsIn_len (ws : List Int) (size : Int) (ps : List Int) : ∀ j, (portsIn ws size ps j).length ≤ ps.length + j
  | 0 => Nat.le_refl _
  | j + 1 => by
    have := portsIn_len ws size ps j
    unfold portsIn
    split
    · rw [List.length_append, List.length_singleton]; omega
    · omega
theorem portsF_len {ws : List Int} {size : Int} (h : size ≤ 6) : ∀ k, (portsF ws size k).length ≤ 6 * k
  | 0 => Nat.le_refl _
  | k + 1 => by
    have := portsF_len (ws := ws) h k
    have h2 := portsIn_len (ws.take (k + 1)) size (portsF ws size k) size.toNat
    unfold portsF
    omega
theorem portsIn_range {ws : List Int} {size : Int} {ps : List Int} (hp : ∀ a ∈ ps, 0 ≤ a ∧ a < size) : ∀ j : Nat, (j : Int) ≤ size → ∀ a ∈ portsIn ws size ps j, 0 ≤ a ∧ a < size
  | 0, _ => hp
  | j + 1, hj => by
    have ih := portsIn_range (ws := ws) hp j (by omega)
    intro a ha
    unfold portsIn at ha
    split at ha
    · rcases List.mem_append.mp ha with ha | ha
      · exact ih a ha
      · rw [List.mem_singleton] at ha
        omega
    · exact ih a ha
theorem portsF_range {ws : List Int} {size : Int} (h : 0 ≤ size) : ∀ k, ∀ a ∈ portsF ws size k, 0 ≤ a ∧ a < size
  | 0 => fun a ha => by cases ha
  | k + 1 => portsIn_range (portsF_range h k) _ (by omega)
theorem portsF_succ {ws : List Int} {size : Int} {i : Nat} : portsF ws size (i + 1) = portsIn (ws.take ((i : Int) + 1).toNat) size (portsF ws size i) (size - 0).toNat := by
  rw [show ((i : Int) + 1).toNat = i + 1 from by omega, Int.sub_zero]
  rfl
theorem ne_upd {a : Addr × Obj} {lp I : Addr} {o o' : Obj} {rest : List (Addr × Obj)} (h : ∀ p ∈ a :: (lp, o) :: rest, p.1 ≠ I) : ∀ p ∈ a :: (lp, o') :: rest, p.1 ≠ I := fun p hp => by
  rcases List.mem_cons.mp hp with rfl | hp
  · exact h _ (.head _)
  rcases List.mem_cons.mp hp with rfl | hp
  · exact fun e => h (lp, o) (.tail _ (.head _)) e
  · exact h _ (.tail _ (.tail _ hp))
theorem ne_upd0 {lp I : Addr} {o o' : Obj} {rest : List (Addr × Obj)} (h : ∀ p ∈ (lp, o) :: rest, p.1 ≠ I) : ∀ p ∈ (lp, o') :: rest, p.1 ≠ I := fun p hp => by
  rcases List.mem_cons.mp hp with rfl | hp
  · exact fun e => h (lp, o) (.head _) e
  · exact h _ (.tail _ hp)
theorem app_obj {vs : List Value} {v : Value} {n : Nat} : W.listOf (vs.toArray.push v) n = lstO (vs ++ [v]) n := by
  simp [W.listOf]
theorem news_adds {h₀ h h' : Heap} {L : Addr} {m : Str → Option Value} {news l : List (Addr × Obj)} (F : Fr h₀ L h m) (N : News h₀ L h' news) (hw : ∀ p ∈ l, h'.get? p.1 = some p.2 ∧ h.get? p.1 = none) : News h₀ L h' (l ++ news) := fun p hp => by
  rcases List.mem_append.mp hp with hp | hp
  · refine ⟨(hw p hp).1, fun e => ?_, ?_⟩
    · obtain ⟨oL, _, _, hL, _⟩ := F.ns
      have := (hw p hp).2
      rw [e, hL] at this; cases this
    · cases q : h₀.get? p.1 with
      | none => rfl
      | some o' => have := (hw p hp).2; rw [F.keep _ _ q] at this; cases this
  · exact N p hp
end Mine
namespace Mine
open PySem PySem.W PySem.Calls PySem.Spec PyProof.Rows
section
variable {prog : Program} {w : World} {A : Around} {E : Value → Shared → Prop} {R : Result → Shared → Prop} {s : Shared} {env : Env}
/-- the same with the end left open -/
noncomputable def CompInR (prog : Program) (w : World) (A : Around) (E : Value → Shared → Prop) (env : Env) (scope : Scope) (cl : List (Str × Addr)) (target elt : Expr) (ifs : List Expr) (use : Option (Value → Sem Unit)) (Q : Value → Shared → Prop) (xv : Value) (s₁ : Shared) : Prop :=
  ∃ r a b t u v, xv = .ref r ∧ IsRange s₁.heap r a b 1 t u v ∧ (-(2 ^ 62) ≤ a ∧ a < 2 ^ 62 ∧ -(2 ^ 62) ≤ b ∧ b < 2 ^ 62) ∧ (b - a).toNat ≤ sizeLine ∧
    ∃ J : Nat → List Value → List (Addr × Obj) → Prop, J 0 [] [] ∧
      (∀ hb C D I oI i tv ys nD news₁ mC h₁ tk₁ E', Keep s₁.heap hb → i < (b - a).toNat → J i ys news₁ → Fr hb C h₁ mC → News hb C h₁ ((I, oI) :: (D, listOf ys.toArray nD) :: news₁) → (∀ p ∈ news₁, p.1 ≠ I ∧ p.1 ≠ D) → I ≠ D →
        wpAny (model prog w) A (assign target (compEnvC scope cl C env) (.int (a + (i : Int)) tv)) (fun _ s₂ =>
          wpAny (model prog w) A (forIn ifs true fun c r => if r = true then do let ok ← isTrue c (compEnvC scope cl C env) (eval c (compEnvC scope cl C env)); pure (ForInStep.yield ok) else pure (ForInStep.yield r)) (fun ok s₃ =>
            if ok = true then wpAny (model prog w) A (eval elt (compEnvC scope cl C env)) (fun y s₄ => CompEnd s₁ hb C I D oI (listOf ys.toArray nD) (J (i + 1) (ys ++ [y])) s₄) E' s₃
            else CompEnd s₁ hb C I D oI (listOf ys.toArray nD) (J (i + 1) ys) s₃) E' s₂) E' { s₁ with heap := h₁, toks := tk₁ }) ∧
      (∀ ys D nD news h' tk C mC, J (b - a).toNat ys news → Keep s₁.heap h' → s₁.heap.get? D = none → h'.get? D = some (lstO ys nD) → (∀ p ∈ news, h'.get? p.1 = some p.2 ∧ s₁.heap.get? p.1 = none ∧ p.1 ≠ D ∧ p.1 ≠ C) →
        s₁.heap.get? C = none → C ≠ D → h'.Ns C mC → compPost (model prog w) A E use Q (.ref D) C (.ok .next) { s₁ with heap := h', toks := tk })
theorem Comp_coreR {elt iter : Expr} {x : Str} {px : Pos} {ifs : List Expr} {scope : Scope} {cl : List (Str × Addr)} {pos pos' : Pos} {Q : Value → Shared → Prop} {use : Option (Value → Sem Unit)} (hh : A.handled = none)
    (hclos : closureFor scope env = pure cl) (hcell : ∀ y ∈ scope.names, y.2 ≠ .cell) (hkind : scope.kind = .function)
    (hnames : ∀ y ∈ scope.names, y.2 = .local → scope.names.lookup y.1 = some .local)
    (h : wpAny (model prog w) A (eval iter env) (CompInR prog w A E env scope cl (.Name x px) elt ifs use Q) E s)
    (hs : ∀ x, foldedSetIterable iter env x = pure x := by intro _; rfl) :
    wpAny (model prog w) A (comprehension (.ListComp elt [⟨.Name x px, iter, ifs, 0⟩] scope pos) scope env pos' (newList []) false (eval iter env) use) Q E s := by
  refine wpAny_comprehension_free (use := use) rfl hs hclos hkind hnames (wpAny_mono h (fun xv s₁ h₁ => ?_) fun _ _ e => e)
  obtain ⟨r, a, b, t, u, v, rfl, hr, ⟨ha, ha', hb0, hb'⟩, hsz, J, hJ, turn, done⟩ := h₁
  refine wpAny_pyIter_range hr (small_one ha ha' hb0 hb') ?_
  have hszr : Builtin.Range.rangeSize a b 1 = ((b - a).toNat : Int) := by rw [rangeSize_one]; split <;> omega
  rw [hszr]
  generalize (b - a).toNat = n at *
  generalize hH1 : s₁.heap.push { cls := .type "range_iterator", data := .fields #[rawInt a, rawInt (n : Int), rawInt 1] } = H1
  have hI0 : IsRangeIter H1 s₁.heap.objs.size (a + ((0 : Nat) : Int)) ((n : Int) - ((0 : Nat) : Int)) 1 := by
    subst hH1
    simp only [Int.natCast_zero, Int.add_zero, Int.sub_zero]
    exact Heap.get?_push_size _ rfl
  have k1 : Keep s₁.heap H1 := by subst hH1; exact fun b o e => Heap.get?_push_of_some _ e
  have z1 : H1.objs.size = s₁.heap.objs.size + 1 := by subst hH1; rw [Heap.size_push]
  refine wpAny_newObj_type (wpAny_newFunctionEnv hcell (by intro y hy; simp at hy) (fun h₁ hns₁ hsb₁ => ?_) hkind)
  dsimp only at hns₁ hsb₁ ⊢
  generalize hH2 : H1.push { cls := .type "list", dict := none, data := .seq ([] : List Value).toArray } = H2 at hns₁ hsb₁ ⊢
  have zC : H2.objs.size = H1.objs.size + 1 := by rw [← hH2, Heap.size_push]
  have k2 : Keep H1 H2 := by subst hH2; exact fun b o e => Heap.get?_push_of_some _ e
  have k3 : ∀ b o, H2.get? b = some o → h₁.get? b = some o := fun b o e => hsb₁.extBut b o (Nat.ne_of_lt (Heap.lt_size e)) (Heap.get?_push_of_some _ e)
  have hD0 : H2.get? H1.objs.size = some (listOf #[] 0) := by subst hH2; exact Heap.get?_push_size _ rfl
  generalize hI : s₁.heap.objs.size = I at hI0 z1 ⊢
  generalize hD : H1.objs.size = D at z1 zC hD0 ⊢
  have hsb₂ := hsb₁
  generalize hC : H2.objs.size = C at zC hns₁ hsb₁ hsb₂ ⊢
  have hID : I ≠ D := by omega
  have hIC : I ≠ C := by omega
  have hDC : D ≠ C := by omega
  have fresh : ∀ a, I ≤ a → s₁.heap.get? a = none := fun a ha => by
    cases e : s₁.heap.get? a with
    | none => rfl
    | some o' =>
      have := Heap.lt_size e
      rw [hI] at this
      exact absurd this (Nat.not_lt_of_le ha)
  obtain ⟨hb, hhb⟩ : ∃ hb, hb = hideAll H2 [I, D] := ⟨_, rfl⟩
  have hbI : hb.get? I = none := by subst hhb; exact hideAll_none _ (.head _)
  have hbD : hb.get? D = none := by subst hhb; exact hideAll_none _ (.tail _ (.head _))
  have hbz : hb.objs.size = C := by subst hhb; rw [hideAll_size, hC]
  have kb : Keep s₁.heap hb := fun b o e => by
    subst hhb
    have hlt := Heap.lt_size e
    rw [hI] at hlt
    refine hideAll_get _ (k2 _ _ (k1 _ _ e)) fun hm => ?_
    simp only [List.mem_cons, List.not_mem_nil, or_false] at hm
    rcases hm with e' | e'
    · rw [e'] at hlt
      exact absurd hlt (Nat.lt_irrefl _)
    · rw [e', z1] at hlt
      exact absurd hlt (Nat.not_lt_of_le (Nat.le_succ _))
  have F0 : Fr hb C h₁ (fun x => List.lookup x ([] : List (Str × Value)).reverse) := ⟨hns₁, fun b o e => k3 b o (by subst hhb; exact of_hideAll _ e), Nat.le_of_eq hbz⟩
  have N0 : News hb C h₁ [(D, listOf ([] : List Value).toArray 0)] := fun p hp => by
    rw [List.mem_singleton] at hp
    subst hp
    exact ⟨k3 _ _ hD0, hDC, hbD⟩
  have hI1 : IsRangeIter h₁ I (a + ((0 : Nat) : Int)) ((n : Int) - ((0 : Nat) : Int)) 1 := k3 _ _ (k2 _ _ hI0)
  have post : codeAny (model prog w) A (.compLoop (.ListComp elt [⟨.Name x px, iter, ifs, 0⟩] scope pos) 0 (.ref I) (.ref D) (compEnvC scope cl C env)) (compPost (model prog w) A E use Q (.ref D) C) { s₁ with heap := h₁, toks := s₁.toks + ([] : List (Str × Value)).length } := by
    refine compLoop_go (fun k s' => ∃ H tk mC ys nD news i, s' = { s₁ with heap := H, toks := tk } ∧ IsRangeIter H I (a + ((i : Nat) : Int)) ((n : Int) - ((i : Nat) : Int)) 1 ∧ Fr hb C H mC ∧ News hb C H ((D, listOf ys.toArray nD) :: news) ∧ (∀ p ∈ news, p.1 ≠ I ∧ p.1 ≠ D) ∧ J i ys news ∧ ys.length ≤ i ∧ i ≤ n ∧ k = n + 1 - i) ?_ (n + 1)
      ⟨h₁, _, _, [], 0, [], 0, rfl, hI1, F0, N0, (fun _ h => by cases h), hJ, Nat.le_refl _, Nat.zero_le _, rfl⟩
    rintro k s' ⟨H, tk, mC, ys, nD, news, i, rfl, hI', F₁, N₁, hne, hJ₁, hyl, hi, rfl⟩
    by_cases hlt : i < n
    · refine wpAny_pyNext_range_item hI' (by omega) fun h₂ hI₂ hs₂ => ?_
      refine go_any ?_
      have e1 : a + (i : Int) + 1 = a + ((i + 1 : Nat) : Int) := by omega
      have e2 : (n : Int) - (i : Int) - 1 = (n : Int) - ((i + 1 : Nat) : Int) := by omega
      rw [e1, e2] at hI₂
      have F₂ : Fr hb C h₂ mC := ⟨F₁.ns.sameBut hs₂ (Ne.symm hIC), fun b o e => (hs₂.2 b (fun q => by rw [q, hbI] at e; cases e)).trans (F₁.keep b o e), F₁.above⟩
      have hnI : ∀ p ∈ (D, listOf ys.toArray nD) :: news, p.1 ≠ I := fun p hp => by
        rcases List.mem_cons.mp hp with rfl | hp
        · exact fun e => hID e.symm
        · exact (hne p hp).1
      have N₂ : News hb C h₂ ((D, listOf ys.toArray nD) :: news) := fun p hp => ⟨(hs₂.2 p.1 (hnI p hp)).trans (N₁ p hp).1, (N₁ p hp).2⟩
      obtain ⟨oI, hoI, hback⟩ : ∃ oI : Obj, h₂.get? I = some oI ∧ ∀ h' : Heap, h'.get? I = some oI → IsRangeIter h' I (a + ((i + 1 : Nat) : Int)) ((n : Int) - ((i + 1 : Nat) : Int)) 1 := ⟨_, hI₂, fun _ e => e⟩
      have N₃ : News hb C h₂ ((I, oI) :: (D, listOf ys.toArray nD) :: news) := by
        intro p hp
        rcases List.mem_cons.mp hp with rfl | hp
        · exact ⟨hoI, hIC, hbI⟩
        · exact N₂ p hp
      have fin : ∀ ys' s₃, ys'.length ≤ i + 1 → CompEnd s₁ hb C I D oI (listOf ys'.toArray nD) (J (i + 1) ys') s₃ → ∃ m, m < n + 1 - i ∧ ∃ H tk mC ys nD news i, s₃ = { s₁ with heap := H, toks := tk } ∧ IsRangeIter H I (a + ((i : Nat) : Int)) ((n : Int) - ((i : Nat) : Int)) 1 ∧ Fr hb C H mC ∧ News hb C H ((D, listOf ys.toArray nD) :: news) ∧ (∀ p ∈ news, p.1 ≠ I ∧ p.1 ≠ D) ∧ J i ys news ∧ ys.length ≤ i ∧ i ≤ n ∧ m = n + 1 - i := by
        rintro ys' s₃ hy ⟨h3, tk3, m3, news3, rfl, F3, N3, hn3, J3⟩
        exact ⟨n + 1 - (i + 1), by omega, h3, tk3, m3, ys', nD, news3, i + 1, rfl, hback _ (N3 _ (.head _)).1, F3, fun p hp => N3 p (.tail _ hp), hn3, J3, hy, hlt, rfl⟩
      refine wpAny_mono (turn hb C D I oI i _ ys nD news mC h₂ _ _ kb hlt hJ₁ F₂ N₃ hne hID) (fun _ s₂ h₂ => ?_) fun _ _ e => e
      refine wpAny_mono h₂ (fun ok s₃ h₃ => ?_) fun _ _ e => e
      cases ok with
      | false =>
        simp only [Bool.false_eq_true, if_false] at h₃ ⊢
        exact fin ys s₃ (by omega) h₃
      | true =>
        simp only [if_true] at h₃ ⊢
        refine wpAny_mono h₃ (fun y s₄ h₄ => ?_) fun _ _ e => e
        obtain ⟨h4, tk4, m4, news4, rfl, F4, N4, hn4, J4⟩ := h₄
        have hD4 : h4.PlainList D ys.toArray := ⟨nD, (N4 _ (.tail _ (.head _))).1⟩
        refine wpAny_list_append_plain (hsz := by rw [List.size_toArray]; omega) hD4 fun h5 hp5 hs5 => ?_
        obtain ⟨n5, hp5⟩ := hp5
        refine ⟨n + 1 - (i + 1), by omega, h5, tk4, m4, ys ++ [y], n5, news4, i + 1, rfl, hback _ ((hs5.2 I hID).trans (N4 _ (.head _)).1), ⟨F4.ns.sameBut hs5 (Ne.symm hDC), fun b o e => (hs5.2 b (fun q => by rw [q, hbD] at e; cases e)).trans (F4.keep b o e), F4.above⟩, ?_, hn4, J4, by rw [List.length_append, List.length_singleton]; omega, hlt, rfl⟩
        intro p hp
        rcases List.mem_cons.mp hp with rfl | hp
        · exact ⟨by rw [hp5]; simp [W.listOf], hDC, hbD⟩
        · have := N4 p (.tail _ (.tail _ hp))
          exact ⟨(hs5.2 p.1 (hn4 p hp).2).trans this.1, this.2⟩
    · have hin : i = n := by omega
      subst hin
      refine wpAny_pyNext_range_end hh hI' (by omega) fun h₂ hs₂ => ?_
      have up : ∀ b o, b ≠ I → H.get? b = some o → h₂.get? b = some o := fun b o hbI e => hs₂ b o hbI e
      have frb : ∀ b, hb.get? b = none → s₁.heap.get? b = none := fun b e => by
        cases q : s₁.heap.get? b with
        | none => rfl
        | some o => rw [kb _ _ q] at e; cases e
      refine done ys D nD news h₂ tk C mC hJ₁ (fun b o e => ?_) (fresh _ (by omega)) ?_ (fun p hp => ?_) (fresh _ (by omega)) (Ne.symm hDC) (F₁.ns.at' fun o e => hs₂ _ o (Ne.symm hIC) e)
      · have hb1 := kb _ _ e
        exact up b o (fun q => by rw [q, hbI] at hb1; cases hb1) (F₁.keep _ _ hb1)
      · exact up D _ (fun e => hID e.symm) (N₁ _ (.head _)).1
      · have := N₁ p (.tail _ hp)
        exact ⟨up _ _ (hne p hp).1 this.1, frb _ this.2.2, (hne p hp).2, this.2.1⟩
  exact codeAny_compStart_list post (wpAny_pyIter_rangeiter hI1 post)
theorem fresh_L {h₀ h : Heap} {L C : Addr} {m : Str → Option Value} (F : Fr h₀ L h m) (hC : h.get? C = none) : C ≠ L ∧ h₀.get? C = none := by
  refine ⟨fun e => ?_, ?_⟩
  · obtain ⟨oL, _, _, hL, _⟩ := F.ns
    subst e
    rw [hL] at hC; cases hC
  · cases q : h₀.get? C with
    | none => rfl
    | some o' => rw [F.keep _ _ q] at hC; cases hC
theorem news_ne {h₀ h : Heap} {L C : Addr} {news : List (Addr × Obj)} (N : News h₀ L h news) (hC : h.get? C = none) : ∀ p ∈ news, p.1 ≠ C := fun p hp e => by
  have := (N p hp).1
  rw [e, hC] at this
  cases this
/-- an assigned comprehension's end, for a local name -/
theorem local_done {y : Str} {py : Pos} {Q : Value → Shared → Prop} {h₀ h' : Heap} {m mC : Str → Option Value} {news : List (Addr × Obj)} {C D : Addr} {ys : List Value} {nD tk : Nat} {s₁ : Shared} (F : Fr h₀ env.locals s₁.heap m) (N : News h₀ env.locals s₁.heap news)
    (kk : Keep s₁.heap h') (hD : s₁.heap.get? D = none) (hD' : h'.get? D = some (lstO ys nD)) (hC : s₁.heap.get? C = none) (hCD : C ≠ D) (hns : h'.Ns C mC)
    (hy : env.kindOf y = some .local) (hp : (env.scope.kind == .class || (env.scope.kind == .module && env.locals != env.globals)) = false)
    (h : ∀ h3 tk3, Fr h₀ env.locals h3 (fun z => if z = y then some (.ref D) else m z) → News h₀ env.locals h3 ((D, lstO ys nD) :: news) → Q .none { s₁ with heap := h3, toks := tk3 }) :
    compPost (model prog w) A E (some (assign (.Name y py) env)) Q (.ref D) C (.ok .next) { s₁ with heap := h', toks := tk } := by
  refine local_use (s := { s₁ with heap := h', toks := tk }) (fr_keep F kk) (news_add F (news_keep N kk) hD hD') hy hp (fresh_L F hC).1 (fresh_L F hC).2 (fun p hp => ?_) hns h
  rcases List.mem_cons.mp hp with rfl | hp
  · exact Ne.symm hCD
  · exact news_ne N hC p hp
theorem Comp_range {elt iter : Expr} {x : Str} {px : Pos} {ifs : List Expr} {scope : Scope} {cl : List (Str × Addr)} {pos : Pos} {Q : Value → Shared → Prop} (hh : A.handled = none)
    (hclos : closureFor scope env = pure cl) (hcell : ∀ y ∈ scope.names, y.2 ≠ .cell) (hkind : scope.kind = .function)
    (hnames : ∀ y ∈ scope.names, y.2 = .local → scope.names.lookup y.1 = some .local)
    (h : wpAny (model prog w) A (eval iter env) (CompInR prog w A E env scope cl (.Name x px) elt ifs none Q) E s)
    (hs : ∀ x, foldedSetIterable iter env x = pure x := by intro _; rfl) :
    wpAny (model prog w) A (eval (.ListComp elt [⟨.Name x px, iter, ifs, 0⟩] scope pos) env) Q E s := by
  rw [eval_ListComp]
  show wpAny _ A (comprehension (.ListComp elt [⟨.Name x px, iter, ifs, 0⟩] scope pos) scope env _ (newList []) false (eval iter env) none) _ _ s
  exact Comp_coreR hh hclos hcell hkind hnames h hs
end
end Mine
namespace Mine
open PySem PySem.W PySem.Calls PySem.Spec PyProof.Rows
/-- no cell -/
noncomputable def cellFree (o : Obj) : Bool := match o.data with
  | .cell _ => false
  | _ => true
section
variable {h₀ h : Heap} {L c : Addr} {news : List (Addr × Obj)} {oc : Obj} {v : Option Value}
theorem ne_cell {p : Addr × Obj} (N : News h₀ L h news) (hm : p ∈ news) (hc : (c, oc) ∈ news) (hoc : oc.data = .cell v) (hf : cellFree p.2 = true) : p.1 ≠ c := fun e => by
  have h1 := (N p hm).1
  have h2 := (N _ hc).1
  rw [e] at h1
  simp only at h2
  rw [h2] at h1
  cases h1
  unfold cellFree at hf
  rw [hoc] at hf
  cases hf
theorem tups_free : ∀ {ps : List (Addr × Obj)} {es : List (Str × Str)}, TupsOf ps es → ∀ p ∈ ps, cellFree p.2 = true
  | [], [], _, _, hp => by cases hp
  | q :: ps, e :: es, ⟨⟨ta, tb, hq⟩, t⟩, p, hp => by
    rcases List.mem_cons.mp hp with rfl | hp
    · rw [hq]; rfl
    · exact tups_free t p hp
theorem tups_ne {ps : List (Addr × Obj)} {es : List (Str × Str)} (N : News h₀ L h news) (hs : ∀ p ∈ ps, p ∈ news) (hc : (c, oc) ∈ news) (hoc : oc.data = .cell v) (ht : TupsOf ps es) : ∀ p ∈ ps, p.1 ≠ c := fun p hp => ne_cell N (hs p hp) hc hoc (tups_free ht p hp)
theorem News.of_mem {news' : List (Addr × Obj)} (N : News h₀ L h news) (hs : ∀ p ∈ news', p ∈ news) : News h₀ L h news' := fun p hp => N p (hs p hp)
end
theorem news_addsR {h₀ h h' : Heap} {L : Addr} {m : Str → Option Value} {news l : List (Addr × Obj)} (F : Fr h₀ L h m) (N : News h₀ L h' news) (hw : ∀ p ∈ l, h'.get? p.1 = some p.2 ∧ h.get? p.1 = none) : News h₀ L h' (news ++ l) := fun p hp => by
  rcases List.mem_append.mp hp with hp | hp
  · exact N p hp
  · exact news_adds F N hw p (List.mem_append_left _ hp)
theorem tupsOf_short {tups : List (Addr × Obj)} {es : List (Str × Str)} (h : TupsOf tups es) (hl : es.length ≤ 1000) : (tups.map fun p => Value.ref p.1).length ≤ 1000 := by
  rw [List.length_map, h.length]
  exact hl
theorem none_done {prog : Program} {w : World} {A : Around} {E : Value → Shared → Prop} {Q : Value → Shared → Prop} {h' : Heap} {mC : Str → Option Value} {news : List (Addr × Obj)} {C D : Addr} {ys : List Value} {nD tk : Nat} {s₁ : Shared}
    (kk : Keep s₁.heap h') (hD : s₁.heap.get? D = none) (hD' : h'.get? D = some (lstO ys nD)) (hnews : ∀ p ∈ news, h'.get? p.1 = some p.2 ∧ s₁.heap.get? p.1 = none ∧ p.1 ≠ D ∧ p.1 ≠ C) (hC : s₁.heap.get? C = none) (hCD : C ≠ D) (hns : h'.Ns C mC)
    (h : ∀ h3, Keep s₁.heap h3 → (∀ p ∈ (D, lstO ys nD) :: news, h3.get? p.1 = some p.2 ∧ s₁.heap.get? p.1 = none) → Q (.ref D) { s₁ with heap := h3, toks := tk }) :
    compPost (model prog w) A E none Q (.ref D) C (.ok .next) { s₁ with heap := h', toks := tk } :=
  ⟨mC, hns, fun h₃ hs₃ => h h₃ (fun b o e => (hs₃.2 b (fun q => by rw [q, hC] at e; cases e)).trans (kk _ _ e)) fun p hp => by
    rcases List.mem_cons.mp hp with rfl | hp
    · exact ⟨(hs₃.2 D (Ne.symm hCD)).trans hD', hD⟩
    · exact ⟨(hs₃.2 _ (hnews p hp).2.2.2).trans (hnews p hp).1, (hnews p hp).2.1⟩⟩
noncomputable abbrev m0F (xs lp lw ls : Addr) : Str → Option Value := fun y => if y = Str.ofString "stairs" then some (.ref xs) else if y = Str.ofString "ports" then some (.ref lp) else if y = Str.ofString "wishes" then some (.ref lw) else if y = Str.ofString "script" then some (.ref ls) else none
noncomputable abbrev tnF : List Str := [Str.ofString "k", Str.ofString "port", Str.ofString "table", Str.ofString "wished", Str.ofString "held", Str.ofString "lead", Str.ofString "due", Str.ofString "onto", Str.ofString "column"]
/-- the items told by these ports -/
noncomputable def nameF (ss : List Int) : List (Str × Str) := ss.zipIdx.map fun p => (nmF (p.2 : Int) p.1, ownF (p.2 : Int))
theorem nameF_snoc (l : List Int) (q : Int) : nameF (l ++ [q]) = nameF l ++ [(nmF (l.length : Int) q, ownF (l.length : Int))] := by
  unfold nameF
  rw [List.zipIdx_append, List.map_append]
  simp
theorem ent_nameF {turn size : Int} {ws : List Int} {i : Nat} : entF turn size ws i = nameF (standsF turn size ws i) := rfl
theorem nameF_take {ss : List Int} {i : Nat} (h : (i : Int) < ss.length) : nameF (ss.take (i + 1)) = nameF (ss.take i) ++ [(nmF (i : Int) (ss.getD ((i : Int)).toNat 0), ownF (i : Int))] := by
  have hi : i < ss.length := by omega
  rw [List.take_succ_eq_append_getElem hi, nameF_snoc, List.length_take, Nat.min_eq_left (Nat.le_of_lt hi), Int.toNat_natCast, List.getD_eq_getElem?_getD, List.getElem?_eq_getElem hi]
  rfl
theorem tup_end {s₁ : Shared} {hb h' : Heap} {C I2 D2 T : Addr} {oI2 oD oT : Obj} {m' : Str → Option Value} {news : List (Addr × Obj)} {J : List (Addr × Obj) → Prop} {tk : Nat} (F : Fr hb C h' m') (N : News hb C h' ((T, oT) :: (I2, oI2) :: (D2, oD) :: news))
    (l : I2 < T ∧ D2 < T ∧ AllLt T news) (hne : ∀ p ∈ news, p.1 ≠ I2 ∧ p.1 ≠ D2) (hJ : J (news ++ [(T, oT)])) : CompEnd s₁ hb C I2 D2 oI2 oD J { s₁ with heap := h', toks := tk } := by
  refine ⟨h', tk, m', news ++ [(T, oT)], rfl, F, News.of_mem N fun p hp => ?_, fun p hp => ?_, hJ⟩
  · simp only [List.mem_cons, List.mem_append, List.not_mem_nil, or_false] at hp ⊢
    rcases hp with h | h | h | h <;> simp [h]
  · rcases List.mem_append.mp hp with hp | hp
    · exact hne p hp
    · rw [List.mem_singleton] at hp
      subst hp
      exact ⟨Nat.ne_of_gt l.1, Nat.ne_of_gt l.2.1⟩
theorem pack_A {h₀ h : Heap} {L : Addr} {q d i e1 e2 e3 e4 lp lw c5 c4 c3 c2 c1 : Addr × Obj} {rest : List (Addr × Obj)} (N : News h₀ L h (q :: d :: i :: e1 :: e2 :: e3 :: e4 :: lp :: lw :: c5 :: c4 :: c3 :: c2 :: c1 :: rest)) : News h₀ L h (i :: e1 :: e2 :: e3 :: e4 :: lp :: lw :: c5 :: c4 :: c3 :: c2 :: c1 :: d :: rest) := by
  unfold News
  repeat (first | (refine List.forall_mem_cons.mpr ⟨N _ (by k_mem), ?_⟩) | exact List.forall_mem_nil _ | exact fun p hp => N p (by repeat (first | exact hp | apply List.mem_cons_of_mem)))
/-- these objects make x a Whitespace of this state -/
noncomputable def WsP (C : Addr) (P : Params) (l : List (Addr × Obj)) (x : Addr) (st : WsSt) : Prop := ∀ h : Heap, (∀ p ∈ l, h.get? p.1 = some p.2) → WsAt C P h x st
theorem WsP.of {C : Addr} {P : Params} {x d D1 D2 : Addr} {k1 k2 k3 k4 k5 tn tt tb : Tok} {rv sv : Value} {vs : List Value} {st : WsSt} (hi : IntsAre vs st.cs) : WsP C P (wsL C P x d D1 D2 k1 k2 k3 k4 k5 rv (.int st.n tn) (.int st.nt tt) (.int st.b tb) sv vs) x st :=
  fun _ H => ⟨d, D1, D2, k1, k2, k3, k4, k5, tn, tt, tb, rv, sv, vs, H, hi⟩
theorem WsP.of' {C : Addr} {P : Params} {x d D1 D2 : Addr} {k1 k2 k3 k4 k5 tn tt tb : Tok} {rv sv : Value} {vs : List Value} {st : WsSt} {R : Addr × Obj → Prop} (_ : ∀ p ∈ wsL C P x d D1 D2 k1 k2 k3 k4 k5 rv (.int st.n tn) (.int st.nt tt) (.int st.b tb) sv vs, R p) (hi : IntsAre vs st.cs) : WsP C P (wsL C P x d D1 D2 k1 k2 k3 k4 k5 rv (.int st.n tn) (.int st.nt tt) (.int st.b tb) sv vs) x st := WsP.of hi
theorem WsP.at {C : Addr} {P : Params} {l news : List (Addr × Obj)} {x : Addr} {st : WsSt} {h₀ h : Heap} {L : Addr} (p : WsP C P l x st) (N : News h₀ L h news) (n : ∀ q ∈ l, q ∈ news) : WsAt C P h x st := p h fun q hq => (N q (n q hq)).1
theorem ports_of {ss : List Int} (hl : ss.length ≤ 5) (hr : ∀ a ∈ ss, 0 ≤ a ∧ a < 6) : PortsOf (nameF ss) ss := by
  refine ⟨by unfold nameF; rw [List.length_map, List.length_zipIdx], fun i e he => ?_⟩
  unfold nameF at he
  rw [List.getElem?_map, List.getElem?_zipIdx] at he
  cases hq : ss[i]? with
  | none => rw [hq] at he; simp at he
  | some q =>
    rw [hq] at he
    simp at he
    have hi := (List.getElem?_eq_some_iff.mp hq).1
    have := hr q (List.mem_of_getElem? hq)
    exact ⟨(i : Int), q, by omega, by omega, this.1, this.2, rfl, by rw [← he]⟩
/-- where the sorted wishes are above the stairs -/
noncomputable def overF (os : List Int) (n : Nat) : List Int := ((List.range n).filter fun (i : Nat) => decide ((i : Int) < os.getD i 0)).map fun (i : Nat) => (i : Int)
theorem overF_succ {os : List Int} {n : Nat} : overF os (n + 1) = overF os n ++ (if (n : Int) < os.getD n 0 then [(n : Int)] else []) := by
  unfold overF
  rw [List.range_succ, List.filter_append, List.map_append]
  congr 1
  by_cases h : (n : Int) < os.getD n 0
  · rw [if_pos h, List.filter_cons_of_pos (by simpa using h)]; rfl
  · rw [if_neg h, List.filter_cons_of_neg (by simpa using h)]; rfl
theorem pack_B {h₀ h : Heap} {L : Addr} {z1 z2 h1 h2 h3 h4 od dw i e1 e2 e3 e4 lp lw c5 c4 c3 c2 c1 ld : Addr × Obj} {rest : List (Addr × Obj)} (N : News h₀ L h (z1 :: z2 :: h1 :: h2 :: h3 :: h4 :: od :: dw :: i :: e1 :: e2 :: e3 :: e4 :: lp :: lw :: c5 :: c4 :: c3 :: c2 :: c1 :: ld :: rest)) : News h₀ L h (i :: e1 :: e2 :: e3 :: e4 :: lp :: lw :: c5 :: c4 :: c3 :: c2 :: c1 :: ld :: h1 :: h2 :: h3 :: h4 :: dw :: od :: []) := by
  unfold News
  repeat (first | (refine List.forall_mem_cons.mpr ⟨N _ (by k_mem), ?_⟩) | exact List.forall_mem_nil _ | exact fun p hp => N p (by repeat (first | exact hp | apply List.mem_cons_of_mem)))
theorem pack_C {h₀ h : Heap} {L : Addr} {z1 h1 h2 h3 h4 i e1 e2 e3 e4 lp lw c5 c4 c3 c2 c1 ld g1 g2 g3 g4 dw od : Addr × Obj} (N : News h₀ L h (z1 :: h1 :: h2 :: h3 :: h4 :: i :: e1 :: e2 :: e3 :: e4 :: lp :: lw :: c5 :: c4 :: c3 :: c2 :: c1 :: ld :: g1 :: g2 :: g3 :: g4 :: dw :: od :: [])) : News h₀ L h (i :: e1 :: e2 :: e3 :: e4 :: lp :: lw :: c5 :: c4 :: c3 :: c2 :: c1 :: ld :: g1 :: g2 :: g3 :: g4 :: dw :: h1 :: h2 :: h3 :: h4 :: []) := by
  unfold News
  repeat (first | (refine List.forall_mem_cons.mpr ⟨N _ (by k_mem), ?_⟩) | exact List.forall_mem_nil _ | exact fun p hp => N p (by repeat (first | exact hp | apply List.mem_cons_of_mem)))
/-- data of a pair of texts -/
noncomputable def datF (e : Str × Str) : Dat := .tuple [.str e.1, .str e.2]
noncomputable def datI (e : Int × Int × Int) : Dat := .tuple [.int e.1, .int e.2.1, .int e.2.2]
theorem reads_tups {h : Heap} : ∀ {vs : List Value} {es : List (Str × Str)}, Tups h vs es → ∃ as, ReadsAll h vs (kqdPs (es.map datF)) as
  | [], [], _ => ⟨_, ReadsAll.nil⟩
  | _ :: _, e :: es, ⟨⟨r, ta, tb, e1, g⟩, t⟩ => by
    obtain ⟨as, q⟩ := reads_tups t
    subst e1
    simp only [List.map_cons, kqdPs, datF, kqdP]
    exact ⟨_, ReadsAll.cons (reads_tuple_at g rfl rfl (ReadsAll.cons (Reads.str _ _) (ReadsAll.cons (Reads.str _ _) ReadsAll.nil))) q⟩
section
variable {prog : Program} {w : World} {A : Around} {E : Value → Shared → Prop} {s : Shared} {a b : Addr} {Q : Value → Shared → Prop} {na nb : Nat} {xs ys : List Value}
/-- lists of the same data are not unequal -/
theorem same_ne {ds : List Dat} {as bs : List Addr} (ha : s.heap.get? a = some (lstO xs na)) (hb : s.heap.get? b = some (lstO ys nb)) (ra : ReadsAll s.heap xs (kqdPs ds) as) (rb : ReadsAll s.heap ys (kqdPs ds) bs) (hk : ∀ d ∈ ds, kqdOk 8 d = true)
    (hu : A.units + 64 < cLine) (h : Q (.bool false) s) : wpAny (model prog w) A (compareOp .NotEq (.ref a) (.ref b)) Q E s := by
  have la := kqd_lay 9 (.list ds) (by simpa [kqdOk] using hk)
  rw [kqdP] at la
  have e : PyData.eqv (.list (kqdPs ds)) (.list (kqdPs ds)) = true := by
    have q := kqd_eqv 9 (.list ds) (.list ds) 9 (by simpa [kqdOk] using hk) (by simpa [kqdOk] using hk)
    rw [kqdP] at q
    exact q.mpr rfl
  refine ne_dataH (reads_list_at ha rfl rfl (by simpa using ra)) (reads_list_at hb rfl rfl (by simpa using rb)) ?_ ?_ hu (by rw [e]; exact h)
  · unfold SeqAt.shaped; rw [la.1, Bool.true_and]; exact decide_eq_true (Nat.le_trans la.2 (by decide))
  · unfold SeqAt.shaped; rw [la.1, Bool.true_and]; exact decide_eq_true (Nat.le_trans la.2 (by decide))
theorem tups_same {es : List (Str × Str)} (ha : s.heap.get? a = some (lstO xs na)) (hb : s.heap.get? b = some (lstO ys nb)) (ra : Tups s.heap xs es) (rb : Tups s.heap ys es) (hk : ∀ e ∈ es, PyData.strOk e.1 = true ∧ PyData.strOk e.2 = true)
    (hu : A.units + 64 < cLine) (h : Q (.bool false) s) : wpAny (model prog w) A (compareOp .NotEq (.ref a) (.ref b)) Q E s := by
  obtain ⟨as, qa⟩ := reads_tups ra
  obtain ⟨bs, qb⟩ := reads_tups rb
  refine same_ne ha hb qa qb (fun d hd => ?_) hu h
  obtain ⟨e, he, rfl⟩ := List.mem_map.mp hd
  have := hk e he
  simp [datF, kqdOk, this]
end
/-- the wishes' column by a plain sum -/
noncomputable def colF (wd : List Int) (tab : Int) : Int := (wd.map fun w => (Int.fdiv w tab + 1) * tab).sum
/-- what is due behind the first n tab sizes -/
noncomputable def dueF (wd ss : List Int) (sz : Int) : Nat → List (Int × Int × Int)
  | 0 => []
  | n + 1 => dueF wd ss sz n ++ (if wentF wd ss (1 + (n : Int)) sz wd.length = 0 then [] else [(1 + (n : Int), colF wd (1 + (n : Int)) + (1 + (n : Int)) * wentF wd ss (1 + (n : Int)) sz wd.length, colF wd (1 + (n : Int)))])
theorem due_len (wd ss : List Int) (sz : Int) : ∀ n, (dueF wd ss sz n).length ≤ n
  | 0 => Nat.le_refl _
  | n + 1 => by
    unfold dueF
    have := due_len wd ss sz n
    rw [List.length_append]
    split <;> simp only [List.length_nil, List.length_cons] <;> omega
theorem trip_free : ∀ {ps : List (Addr × Obj)} {es : List (Int × Int × Int)}, TripOf ps es → ∀ p ∈ ps, cellFree p.2 = true
  | [], [], _, _, hp => by cases hp
  | q :: ps, e :: es, ⟨⟨ta, tb, tc, hq⟩, t⟩, p, hp => by
    rcases List.mem_cons.mp hp with rfl | hp
    · rw [hq]; rfl
    · exact trip_free t p hp
theorem trips_ne {h₀ h : Heap} {L c : Addr} {news : List (Addr × Obj)} {oc : Obj} {v : Option Value} {ps : List (Addr × Obj)} {es : List (Int × Int × Int)} (N : News h₀ L h news) (hs : ∀ p ∈ ps, p ∈ news) (hc : (c, oc) ∈ news) (hoc : oc.data = .cell v) (ht : TripOf ps es) : ∀ p ∈ ps, p.1 ≠ c := fun p hp => ne_cell N (hs p hp) hc hoc (trip_free ht p hp)
theorem reads_trips {h : Heap} : ∀ {ps : List (Addr × Obj)} {es : List (Int × Int × Int)}, TripOf ps es → (∀ p ∈ ps, h.get? p.1 = some p.2) → ∃ as, ReadsAll h (ps.map fun p => Value.ref p.1) (kqdPs (es.map datI)) as
  | [], [], _, _ => ⟨_, ReadsAll.nil⟩
  | q :: ps, e :: es, ⟨⟨ta, tb, tc, hq⟩, t⟩, H => by
    obtain ⟨as, r⟩ := reads_trips t fun p hp => H p (.tail _ hp)
    have g := H q (.head _)
    rw [hq] at g
    simp only [List.map_cons, kqdPs, datI, kqdP]
    exact ⟨_, ReadsAll.cons (reads_tuple_at g rfl rfl (ReadsAll.cons (Reads.int _ _) (ReadsAll.cons (Reads.int _ _) (ReadsAll.cons (Reads.int _ _) ReadsAll.nil)))) r⟩
theorem trips_same {prog : Program} {w : World} {A : Around} {E : Value → Shared → Prop} {s : Shared} {a b : Addr} {Q : Value → Shared → Prop} {na nb : Nat} {ps qs : List (Addr × Obj)} {es : List (Int × Int × Int)}
    (ha : s.heap.get? a = some (lstO (ps.map fun p => Value.ref p.1) na)) (hb : s.heap.get? b = some (lstO (qs.map fun p => Value.ref p.1) nb)) (ra : TripOf ps es) (rb : TripOf qs es) (Ha : ∀ p ∈ ps, s.heap.get? p.1 = some p.2) (Hb : ∀ p ∈ qs, s.heap.get? p.1 = some p.2)
    (hu : A.units + 64 < cLine) (h : Q (.bool false) s) : wpAny (model prog w) A (compareOp .NotEq (.ref a) (.ref b)) Q E s := by
  obtain ⟨as, qa⟩ := reads_trips ra Ha
  obtain ⟨bs, qb⟩ := reads_trips rb Hb
  refine same_ne ha hb qa qb (fun d hd => ?_) hu h
  obtain ⟨e, he, rfl⟩ := List.mem_map.mp hd
  simp [datI, kqdOk]
theorem fdiv_lo {a b : Int} (ha : 0 ≤ a) (hb : 0 < b) : 0 ≤ Int.fdiv a b := by
  rw [Int.fdiv_eq_ediv_of_nonneg _ (Int.le_of_lt hb)]
  exact Int.ediv_nonneg ha (Int.le_of_lt hb)
theorem fdiv_hi {a b : Int} (ha : 0 ≤ a) (hb : 0 < b) : Int.fdiv a b ≤ a := by
  rw [Int.fdiv_eq_ediv_of_nonneg _ (Int.le_of_lt hb)]
  exact Int.ediv_le_self _ ha
theorem wentIn_bound {w size tab : Int} (hs0 : 5 ≤ size) (hs1 : size ≤ 6) (ht : 1 ≤ tab) : ∀ n : Nat, - (5 * (n : Int)) ≤ wentIn w size tab n ∧ wentIn w size tab n ≤ 5 * (n : Int)
  | 0 => by simp [wentIn]
  | n + 1 => by
    have ih := wentIn_bound (w := w) hs0 hs1 ht n
    have h1 := fdiv_lo (a := size - 1) (b := tab) (by omega) (by omega)
    have h2 := fdiv_hi (a := size - 1) (b := tab) (by omega) (by omega)
    rw [wentIn_succ]
    split
    · omega
    · split <;> omega
theorem wentF_bound {ws ss : List Int} {tab size : Int} (hs0 : 5 ≤ size) (hs1 : size ≤ 6) (ht : 1 ≤ tab) : ∀ k : Nat, - (25 * (k : Int)) ≤ wentF ws ss tab size k ∧ wentF ws ss tab size k ≤ 25 * (k : Int)
  | 0 => by simp [wentF]
  | k + 1 => by
    have ih := wentF_bound (ws := ws) (ss := ss) hs0 hs1 ht k
    have h0 := fmod_lo (a := ss.getD k 0 - ws.getD k 0) (b := size) (by omega)
    have h1 := fmod_hi (a := ss.getD k 0 - ws.getD k 0) (b := size) (by omega)
    have h2 := wentIn_bound (w := ws.getD k 0) hs0 hs1 ht (Int.fmod (ss.getD k 0 - ws.getD k 0) size).toNat
    rw [wentF_succ]
    omega
theorem pack_D {h₀ h : Heap} {L : Addr} {z T i2 q c5 i e1 e2 e3 e4 lp lw c4 c3 c2 c1 ld xh dh g3 g4 dw g5 g6 g7 g8 : Addr × Obj} {tr : List (Addr × Obj)} (N : News h₀ L h (T :: z :: i2 :: q :: i :: e1 :: e2 :: e3 :: e4 :: lp :: lw :: c5 :: c4 :: c3 :: c2 :: c1 :: ld :: xh :: dh :: g3 :: g4 :: dw :: g5 :: g6 :: g7 :: g8 :: tr)) : News h₀ L h (i2 :: q :: i :: e1 :: e2 :: e3 :: e4 :: lp :: lw :: c5 :: c4 :: c3 :: c2 :: c1 :: ld :: xh :: dh :: g3 :: g4 :: dw :: g5 :: g6 :: g7 :: g8 :: (tr ++ [T])) := by
  unfold News
  repeat (refine List.forall_mem_cons.mpr ⟨N _ (by k_mem), ?_⟩)
  exact fun p hp => (List.mem_append.mp hp).elim (fun h => N p (by repeat (first | exact h | apply List.mem_cons_of_mem))) fun h => by
    rw [List.mem_singleton] at h
    subst h
    exact N _ (by k_mem)
theorem ne_D {I2 la a5 : Addr} {ol ol' o5 o5' : Obj} { i e1 e2 e3 e4 lp lw c4 c3 c2 c1 ld xh dh g3 g4 dw g5 g6 g7 g8 : Addr × Obj} {tr : List (Addr × Obj)} (H : ∀ p ∈ (la, ol) :: i :: e1 :: e2 :: e3 :: e4 :: lp :: lw :: (a5, o5) :: c4 :: c3 :: c2 :: c1 :: ld :: xh :: dh :: g3 :: g4 :: dw :: g5 :: g6 :: g7 :: g8 :: tr, p.1 ≠ I2) : ∀ p ∈ (la, ol') :: i :: e1 :: e2 :: e3 :: e4 :: lp :: lw :: (a5, o5') :: c4 :: c3 :: c2 :: c1 :: ld :: xh :: dh :: g3 :: g4 :: dw :: g5 :: g6 :: g7 :: g8 :: tr, p.1 ≠ I2 := by
  refine List.forall_mem_cons.mpr ⟨(H (la, ol) (by k_mem) :), ?_⟩
  repeat (first | (refine List.forall_mem_cons.mpr ⟨H _ (by k_mem), ?_⟩) | (refine List.forall_mem_cons.mpr ⟨(H (a5, o5) (by k_mem) :), ?_⟩))
  exact fun p hp => H p (by repeat (first | exact hp | apply List.mem_cons_of_mem))
theorem pack_D' {h₀ h : Heap} {L Ta la : Addr} {To : Obj} {n : Nat} {z i2 c5 i e1 e2 e3 e4 lp lw c4 c3 c2 c1 ld xh dh g3 g4 dw g5 g6 g7 g8 : Addr × Obj} {tr : List (Addr × Obj)} (N : News h₀ L h ((Ta, To) :: z :: i2 :: (la, lstO ((tr.map fun p => Value.ref p.1) ++ [.ref Ta]) n) :: i :: e1 :: e2 :: e3 :: e4 :: lp :: lw :: c5 :: c4 :: c3 :: c2 :: c1 :: ld :: xh :: dh :: g3 :: g4 :: dw :: g5 :: g6 :: g7 :: g8 :: tr)) : News h₀ L h (i2 :: (la, lstO ((tr ++ [(Ta, To)]).map fun p => Value.ref p.1) n) :: i :: e1 :: e2 :: e3 :: e4 :: lp :: lw :: c5 :: c4 :: c3 :: c2 :: c1 :: ld :: xh :: dh :: g3 :: g4 :: dw :: g5 :: g6 :: g7 :: g8 :: (tr ++ [(Ta, To)])) := by
  have N1 := pack_D (tr := tr) N
  rw [List.map_append]
  exact N1
theorem ne_Dx {I2 la a5 : Addr} {ol ol' o5 o5' : Obj} {T i e1 e2 e3 e4 lp lw c4 c3 c2 c1 ld xh dh g3 g4 dw g5 g6 g7 g8 : Addr × Obj} {tr : List (Addr × Obj)} (H : ∀ p ∈ (la, ol) :: i :: e1 :: e2 :: e3 :: e4 :: lp :: lw :: (a5, o5) :: c4 :: c3 :: c2 :: c1 :: ld :: xh :: dh :: g3 :: g4 :: dw :: g5 :: g6 :: g7 :: g8 :: tr, p.1 ≠ I2) (hT : T.1 ≠ I2) : ∀ p ∈ (la, ol') :: i :: e1 :: e2 :: e3 :: e4 :: lp :: lw :: (a5, o5') :: c4 :: c3 :: c2 :: c1 :: ld :: xh :: dh :: g3 :: g4 :: dw :: g5 :: g6 :: g7 :: g8 :: (tr ++ [T]), p.1 ≠ I2 := fun p hp => by
  by_cases hq : p = T
  · rw [hq]; exact hT
  · refine ne_D (ol' := ol') (o5' := o5') H p ?_
    simp only [List.mem_cons, List.mem_append, List.not_mem_nil, or_false, hq] at hp ⊢
    exact hp
theorem pack_E {h₀ h : Heap} {L : Addr} {q i e1 e2 e3 e4 lp lw c5 c4 c3 c2 c1 : Addr × Obj} {rest : List (Addr × Obj)} (N : News h₀ L h (q :: i :: e1 :: e2 :: e3 :: e4 :: lp :: lw :: c5 :: c4 :: c3 :: c2 :: c1 :: rest)) : News h₀ L h (i :: e1 :: e2 :: e3 :: e4 :: lp :: lw :: c5 :: c4 :: c3 :: c2 :: c1 :: []) := by
  unfold News
  repeat (first | (refine List.forall_mem_cons.mpr ⟨N _ (by k_mem), ?_⟩) | exact List.forall_mem_nil _ | exact fun p hp => N p (by repeat (first | exact hp | apply List.mem_cons_of_mem)))
theorem wit_pick {tups : List (Addr × Obj)} {es : List (Int × Int × Int)} {a : Addr} {n : Nat} {h g : Heap} (_ : TripOf tups es) (hw : ∀ p ∈ (a, lstO (tups.map fun p => Value.ref p.1) n) :: tups, h.get? p.1 = some p.2 ∧ g.get? p.1 = none) : ∀ p ∈ (a, lstO (tups.map fun p => Value.ref p.1) n) :: tups, h.get? p.1 = some p.2 ∧ g.get? p.1 = none := hw
theorem ne_snoc {I2 : Addr} {T : Addr × Obj} {pre tr : List (Addr × Obj)} (h1 : ∀ p ∈ pre, p.1 ≠ I2) (h2 : ∀ p ∈ tr, p.1 ≠ I2) (hT : T.1 ≠ I2) : ∀ p ∈ tr ++ [T], p.1 ≠ I2 := fun p hp => by
  rcases List.mem_append.mp hp with hp | hp
  · exact h2 p hp
  · rw [List.mem_singleton] at hp
    subst hp
    exact hT
theorem fresh_ne {h : Heap} {a D : Addr} {o : Obj} (ha : h.get? a = some o) (hD : h.get? D = none) : D < a ∨ D > a := Nat.lt_or_gt_of_ne fun e => by
  rw [e, ha] at hD
  cases hD
/-- a lead of small ports -/
theorem fold_repl (st : WsSt) : ∀ n : Nat, (List.replicate n 32).foldl wsStep st = ⟨st.cs, st.b + n, st.n + n, st.nt⟩
  | 0 => by cases st; rfl
  | n + 1 => by
    rw [List.replicate_succ, List.foldl_cons, fold_repl]
    simp only [wsStep, if_true]
    congr 1 <;> omega
theorem fold_piece (st : WsSt) (hb : st.b = 0) (n : Nat) : (List.replicate n 32 ++ [9]).foldl wsStep st = ⟨bumpF st.cs n, 0, st.n + n + 1, st.nt + 1⟩ := by
  rw [List.foldl_append, fold_repl, hb, Nat.zero_add]
  rfl
noncomputable def LowOk (st : WsSt) (k : Nat) : Prop := st.b = 0 ∧ st.cs.length ≤ 6 ∧ st.n ≤ 6 * k ∧ st.nt ≤ k
theorem low_run : ∀ (ps : List Int) {st : WsSt} {k : Nat}, (∀ a ∈ ps, 0 ≤ a ∧ a < 6) → LowOk st k → LowOk ((codesF ps).foldl wsStep st) (k + ps.length)
  | [], _, _, _, h => h
  | p :: ps, st, k, hp, ⟨h1, h2, h3, h4⟩ => by
    have hq := hp p (.head _)
    have e : codesF (p :: ps) = (List.replicate p.toNat 32 ++ [9]) ++ codesF ps := by unfold codesF; rw [List.flatMap_cons]
    rw [e, List.foldl_append, fold_piece st h1, List.length_cons, show k + (ps.length + 1) = k + 1 + ps.length from by omega]
    refine low_run ps (fun a ha => hp a (.tail _ ha)) ⟨rfl, ?_, ?_, ?_⟩
    · rw [bump_len]; omega
    · show st.n + p.toNat + 1 ≤ 6 * (k + 1)
      omega
    · show st.nt + 1 ≤ k + 1
      omega
theorem low_fold {ps : List Int} (hp : ∀ a ∈ ps, 0 ≤ a ∧ a < 6) : LowOk (wsFold (codesF ps)) ps.length := by
  have := low_run ps (st := ⟨[], 0, 0, 0⟩) (k := 0) hp ⟨rfl, by simp, by simp, by simp⟩
  rw [Nat.zero_add] at this
  exact this
theorem codes_small {ps : List Int} (hp : ∀ a ∈ ps, 0 ≤ a ∧ a < 6) : (codesF ps).length ≤ 6 * ps.length := by
  unfold codesF
  induction ps with
  | nil => simp
  | cons q r ih =>
    have := ih fun a ha => hp a (.tail _ ha)
    have := hp q (.head _)
    simp only [List.flatMap_cons, List.length_append, List.length_replicate, List.length_cons, List.length_nil] at *
    omega
theorem low_facts {ps : List Int} (hp : ∀ a ∈ ps, 0 ≤ a ∧ a < 6) (hl : ps.length ≤ 5) : WsLow (wsFold (codesF ps)) ∧ longF (wsFold (codesF ps)) ≤ 15 := by
  obtain ⟨h1, h2, h3, h4⟩ := low_fold hp
  obtain ⟨_, _, _, k4⟩ := ws_ok (codesF ps)
  have hc := codes_small hp
  refine ⟨⟨by omega, by omega, by omega, fun a ha => ?_⟩, ?_⟩
  · have := k4 a ha
    omega
  · unfold longF
    omega
theorem strs_ok_all : ∀ k : Fin 5, ∀ p : Fin 6, (PyData.strOk (nmF (k.1 : Int) (p.1 : Int)) && PyData.strOk (ownF (k.1 : Int))) = true := by decide +kernel
theorem name_ok {ss : List Int} (hl : ss.length ≤ 5) (hr : ∀ a ∈ ss, 0 ≤ a ∧ a < 6) : ∀ e ∈ nameF ss, PyData.strOk e.1 = true ∧ PyData.strOk e.2 = true := by
  intro e he
  unfold nameF at he
  obtain ⟨⟨q, j⟩, hm, rfl⟩ := List.mem_map.mp he
  have h1 := List.mem_zipIdx hm
  obtain ⟨_, h2, h3⟩ := h1
  have hq := hr q (by rw [h3]; exact List.getElem_mem _)
  obtain ⟨n, rfl⟩ := Int.eq_ofNat_of_zero_le hq.1
  have := strs_ok_all ⟨j, by omega⟩ ⟨n, by omega⟩
  simpa using this
theorem ov_start {xs lp lw ls : Addr} {f : Str → Option Value} : Ov tnF (m0F xs lp lw ls) (fun y => if y = Str.ofString "stairs" then some (.ref xs) else over [Str.ofString "k", Str.ofString "port"] f (fun y => if y = Str.ofString "ports" then some (.ref lp) else if y = Str.ofString "wishes" then some (.ref lw) else if y = Str.ofString "script" then some (.ref ls) else none) y) :=
  over_of fun z hz => by
    have h2 : [Str.ofString "k", Str.ofString "port"].contains z = false := by
      rw [Bool.eq_false_iff] at hz ⊢
      intro h
      apply hz
      simp only [tnF, List.contains_cons, Bool.or_eq_true] at h ⊢
      rcases h with h | h | h
      · exact .inl h
      · exact .inr (.inl h)
      · cases h
    by_cases e : z = Str.ofString "stairs"
    · simp only [if_pos e]
    · simp only [if_neg e]
      rw [over_off h2]
/-- what the plain law has to tell -/
structure LawFacts (ws : List Int) (sz : Int) : Prop where
  len : (portsF ws sz ws.length).length = ws.length
  seats : ∀ turn : Int, 0 ≤ turn → turn < sz → standsF turn sz ws ws.length = (portsF ws sz ws.length).map fun p => Int.fmod (p + turn) sz
  stairs : ∀ turn : Int, 0 ≤ turn → turn < sz → ∀ os : List Int, os.Perm (ws.map fun a => Int.fmod (a + turn) sz) → os.Pairwise (· ≤ ·) →
    decide ((wsFold (codesF ((portsF ws sz ws.length).map fun p => Int.fmod (p + turn) sz))).cs = (wsFold (codesF (upTo (sz - 1)))).cs ∧ (wsFold (codesF ((portsF ws sz ws.length).map fun p => Int.fmod (p + turn) sz))).b = (wsFold (codesF (upTo (sz - 1)))).b) = decide (overF os ws.length = [])
  same : ∀ turn : Int, 0 ≤ turn → turn < sz → ∀ os : List Int, os.Perm (ws.map fun a => Int.fmod (a + turn) sz) → os.Pairwise (· ≤ ·) → ∀ qs : List Int, qs.Perm ((portsF ws sz ws.length).map fun p => Int.fmod (p + turn) sz) → qs.Pairwise (· ≤ ·) →
    decide ((wsFold (codesF ((portsF ws sz ws.length).map fun p => Int.fmod (p + turn) sz))).cs = (wsFold (codesF (ws.map fun a => Int.fmod (a + turn) sz))).cs ∧ (wsFold (codesF ((portsF ws sz ws.length).map fun p => Int.fmod (p + turn) sz))).b = (wsFold (codesF (ws.map fun a => Int.fmod (a + turn) sz))).b) = decide (qs = os)
  due : ∀ turn : Int, 0 ≤ turn → turn < sz → ∀ M : Int, M ∈ (((portsF ws sz ws.length).map fun p => Int.fmod (p + turn) sz) ++ ws.map fun a => Int.fmod (a + turn) sz) → (∀ a ∈ (((portsF ws sz ws.length).map fun p => Int.fmod (p + turn) sz) ++ ws.map fun a => Int.fmod (a + turn) sz), a ≤ M) →
    witnessF (wsFold (codesF ((portsF ws sz ws.length).map fun p => Int.fmod (p + turn) sz))) (wsFold (codesF (ws.map fun a => Int.fmod (a + turn) sz))) = dueF (ws.map fun a => Int.fmod (a + turn) sz) ((portsF ws sz ws.length).map fun p => Int.fmod (p + turn) sz) sz (M + 1).toNat
  back : (wsFold (codesF (standsF 0 sz ws.reverse ws.length))).cs = (wsFold (codesF (portsF ws sz ws.length))).cs ∧ (wsFold (codesF (standsF 0 sz ws.reverse ws.length))).b = (wsFold (codesF (portsF ws sz ws.length))).b
theorem turned_range {l : List Int} {t sz : Int} (h : 0 < sz) (h6 : sz ≤ 6) : ∀ a ∈ l.map (fun p => Int.fmod (p + t) sz), 0 ≤ a ∧ a < 6 := fun a ha => by
  obtain ⟨b, _, rfl⟩ := List.mem_map.mp ha
  have h1 := fmod_lo (a := b + t) h
  have h2 := fmod_hi (a := b + t) h
  omega
end Mine
namespace Mine
open PySem PySem.W PySem.Calls PySem.Spec PyProof.Rows
/-- the runs of these ports -/
noncomputable def bumpsF (ps : List Int) (cs : List Int) : List Int := ps.foldl (fun cs p => bumpF cs p.toNat) cs
theorem fold_codes : ∀ (ps : List Int) (st : WsSt), st.b = 0 → ∃ n, (codesF ps).foldl wsStep st = ⟨bumpsF ps st.cs, 0, n, st.nt + ps.length⟩
  | [], st, h => ⟨st.n, by cases st; simp only at h; subst h; rfl⟩
  | p :: ps, st, h => by
    have e : codesF (p :: ps) = (List.replicate p.toNat 32 ++ [9]) ++ codesF ps := by unfold codesF; rw [List.flatMap_cons]
    rw [e, List.foldl_append, fold_piece st h]
    obtain ⟨n, hn⟩ := fold_codes ps ⟨bumpF st.cs p.toNat, 0, st.n + p.toNat + 1, st.nt + 1⟩ rfl
    refine ⟨n, hn.trans ?_⟩
    simp only [List.length_cons, Nat.add_assoc, Nat.add_comm 1]
    rfl
theorem ws_codes (ps : List Int) : (wsFold (codesF ps)).cs = bumpsF ps [] ∧ (wsFold (codesF ps)).b = 0 ∧ (wsFold (codesF ps)).nt = ps.length := by
  obtain ⟨n, h⟩ := fold_codes ps ⟨[], 0, 0, 0⟩ rfl
  have e : wsFold (codesF ps) = ⟨bumpsF ps [], 0, n, ps.length⟩ := by
    unfold wsFold
    rw [h, Nat.zero_add]
  rw [e]
  exact ⟨rfl, rfl, rfl⟩
theorem bump_at (cs : List Int) (b i : Nat) : (bumpF cs b).getD i 0 = cs.getD i 0 + if i = b then 1 else 0 := by
  have hg : ∀ j k : Nat, (cs ++ List.replicate k (0 : Int)).getD j 0 = cs.getD j 0 := by
    intro j k
    simp only [List.getD_eq_getElem?_getD, List.getElem?_append]
    split
    · rfl
    · rename_i h
      rw [List.getElem?_eq_none (by omega : cs.length ≤ j), List.getElem?_replicate]
      split <;> rfl
  unfold bumpF
  have hl : b < (cs ++ List.replicate (b + 1 - cs.length) (0 : Int)).length := by
    rw [List.length_append, List.length_replicate]
    omega
  by_cases h : i = b
  · subst h
    rw [if_pos rfl, List.getD_eq_getElem?_getD, List.getElem?_set_self hl, Option.getD_some, hg]
  · rw [if_neg h, List.getD_eq_getElem?_getD, List.getElem?_set_ne (Ne.symm h), ← List.getD_eq_getElem?_getD, hg, Int.add_zero]
theorem bumps_at : ∀ (ps cs : List Int) (i : Nat), (bumpsF ps cs).getD i 0 = cs.getD i 0 + (ps.countP fun p => p.toNat == i : Nat)
  | [], cs, i => by simp [bumpsF]
  | p :: ps, cs, i => by
    have ih := bumps_at ps (bumpF cs p.toNat) i
    unfold bumpsF at ih ⊢
    rw [List.foldl_cons, ih, bump_at, List.countP_cons]
    by_cases h : p.toNat = i
    · simp only [h, BEq.rfl, if_true]; omega
    · have h' : (p.toNat == i) = false := by simpa using h
      simp only [h', if_neg (Ne.symm h), Bool.false_eq_true, if_false]; omega
theorem bumps_len : ∀ (ps cs : List Int) (i : Nat), i < (bumpsF ps cs).length ↔ i < cs.length ∨ ∃ p ∈ ps, i ≤ p.toNat
  | [], cs, i => by simp [bumpsF]
  | p :: ps, cs, i => by
    have ih := bumps_len ps (bumpF cs p.toNat) i
    unfold bumpsF at ih ⊢
    rw [List.foldl_cons, ih, bump_len]
    constructor
    · rintro (h | ⟨q, hq, h⟩)
      · by_cases h1 : i < cs.length
        · exact .inl h1
        · exact .inr ⟨p, .head _, by omega⟩
      · exact .inr ⟨q, .tail _ hq, h⟩
    · rintro (h | ⟨q, hq, h⟩)
      · exact .inl (by omega)
      · rcases List.mem_cons.mp hq with rfl | hq
        · exact .inl (by omega)
        · exact .inr ⟨q, hq, h⟩
theorem bumps_perm {l l' : List Int} (h : l.Perm l') : bumpsF l [] = bumpsF l' [] := by
  have hl : (bumpsF l []).length = (bumpsF l' []).length := by
    have h1 := bumps_len l []
    have h2 := bumps_len l' []
    have h3 : ∀ i, i < (bumpsF l []).length ↔ i < (bumpsF l' []).length := fun i => by
      rw [h1, h2]
      constructor
      · rintro (a | ⟨q, hq, a⟩)
        · exact .inl a
        · exact .inr ⟨q, h.mem_iff.mp hq, a⟩
      · rintro (a | ⟨q, hq, a⟩)
        · exact .inl a
        · exact .inr ⟨q, h.mem_iff.mpr hq, a⟩
    have a := h3 (bumpsF l []).length
    have b := h3 (bumpsF l' []).length
    omega
  refine List.ext_getElem hl fun i a b => ?_
  have e1 := bumps_at l [] i
  have e2 := bumps_at l' [] i
  rw [h.countP_eq, ← e2] at e1
  rw [List.getD_eq_getElem?_getD, List.getD_eq_getElem?_getD, List.getElem?_eq_getElem a, List.getElem?_eq_getElem b] at e1
  exact e1
/-- two leads have one norm just if their ports are the same numbers -/
theorem norm_iff {l l' : List Int} (h : ∀ a ∈ l, 0 ≤ a ∧ a < 6) (h' : ∀ a ∈ l', 0 ≤ a ∧ a < 6) :
    ((wsFold (codesF l)).cs = (wsFold (codesF l')).cs ∧ (wsFold (codesF l)).b = (wsFold (codesF l')).b) ↔ l.Perm l' := by
  rw [(ws_codes l).1, (ws_codes l').1, (ws_codes l).2.1, (ws_codes l').2.1]
  constructor
  · rintro ⟨e, _⟩
    rw [List.perm_iff_count]
    intro a
    by_cases ha : 0 ≤ a
    · have e1 := bumps_at l [] a.toNat
      have e2 := bumps_at l' [] a.toNat
      rw [e, e2] at e1
      have hc : ∀ m : List Int, (∀ b ∈ m, 0 ≤ b ∧ b < 6) → m.countP (fun p => p.toNat == a.toNat) = m.count a := fun m hm => by
        unfold List.count
        refine List.countP_congr fun b hb => ?_
        have := hm b hb
        simp only [beq_iff_eq]
        omega
      rw [hc l h, hc l' h'] at e1
      omega
    · rw [List.count_eq_zero_of_not_mem (fun hm => ha (h a hm).1), List.count_eq_zero_of_not_mem (fun hm => ha (h' a hm).1)]
  · exact fun p => ⟨bumps_perm p, rfl⟩
/-- columns -/
noncomputable def runF (g : Nat → Int) (tab : Int) : Nat → Int
  | 0 => 0
  | i + 1 => runF g tab i + Int.fdiv (tab + i) tab * g (tab + (i : Int)).toNat
theorem il_run (cs : List Int) (tab : Int) : ∀ k, ilF cs tab k = runF (fun i => cs.getD i 0) tab k
  | 0 => rfl
  | k + 1 => by unfold ilF runF; rw [il_run cs tab k]
theorem il_more (cs : List Int) {tab : Int} (ht : 1 ≤ tab) : ∀ k : Nat, (((cs.length : Int) - tab).toNat ≤ k) → ilF cs tab k = ilF cs tab ((cs.length : Int) - tab).toNat := by
  intro k
  induction k with
  | zero => intro h; rw [Nat.le_zero.mp h]
  | succ k ih =>
    intro h
    by_cases hk : ((cs.length : Int) - tab).toNat ≤ k
    · have hz : cs.getD (tab + (k : Int)).toNat 0 = 0 := by
        rw [List.getD_eq_getElem?_getD, List.getElem?_eq_none (by omega)]; rfl
      rw [show ilF cs tab (k + 1) = ilF cs tab k + Int.fdiv (tab + k) tab * cs.getD (tab + (k : Int)).toNat 0 from rfl, ih hk, hz, Int.mul_zero, Int.add_zero]
    · rw [show ((cs.length : Int) - tab).toNat = k + 1 from by omega]
theorem run_add (g g' : Nat → Int) (tab : Int) : ∀ k, runF (fun i => g i + g' i) tab k = runF g tab k + runF g' tab k
  | 0 => rfl
  | k + 1 => by
    unfold runF
    rw [run_add g g' tab k, Int.mul_add]
    omega
theorem run_one {tab : Int} (ht : 1 ≤ tab) (p : Nat) : ∀ k : Nat, runF (fun i => if i = p then 1 else 0) tab k = if tab ≤ p ∧ (p : Int) < tab + k then Int.fdiv p tab else 0
  | 0 => by rw [if_neg (by omega)]; rfl
  | k + 1 => by
    unfold runF
    rw [run_one ht p k]
    by_cases h : (tab + (k : Int)).toNat = p
    · have hp : (p : Int) = tab + k := by omega
      rw [if_pos h, if_neg (by omega), if_pos (by omega), hp]; omega
    · rw [if_neg h]
      by_cases h2 : tab ≤ p ∧ (p : Int) < tab + k
      · rw [if_pos h2, if_pos (by omega)]; omega
      · rw [if_neg h2, if_neg (by omega)]; omega
theorem run_bumps {tab : Int} (ht : 1 ≤ tab) : ∀ (ps cs : List Int), (∀ a ∈ ps, 0 ≤ a ∧ a < 6) → runF (fun i => (bumpsF ps cs).getD i 0) tab 6 = runF (fun i => cs.getD i 0) tab 6 + (ps.map fun p => Int.fdiv p tab).sum
  | [], cs, _ => by simp [bumpsF]
  | p :: ps, cs, h => by
    have ih := run_bumps ht ps (bumpF cs p.toNat) fun a ha => h a (.tail _ ha)
    have hp := h p (.head _)
    have e : (fun i => (bumpF cs p.toNat).getD i 0) = fun i => (cs.getD i 0) + (if i = p.toNat then 1 else 0) := funext fun i => bump_at cs p.toNat i
    unfold bumpsF at ih ⊢
    rw [List.foldl_cons, ih, e, run_add, run_one ht, List.map_cons, List.sum_cons, Int.add_assoc]
    congr 2
    rw [show ((p.toNat : Nat) : Int) = p from by omega]
    split
    · rfl
    · rename_i hn
      rw [Int.fdiv_eq_ediv_of_nonneg _ (by omega), Int.ediv_eq_zero_of_lt hp.1 (by omega)]
theorem level_codes {ps : List Int} (h : ∀ a ∈ ps, 0 ≤ a ∧ a < 6) {tab : Int} (ht : 1 ≤ tab) : levelF (wsFold (codesF ps)) tab = colF ps tab := by
  obtain ⟨h1, h2, h3⟩ := ws_codes ps
  have hlen : (bumpsF ps []).length ≤ 6 := by
    have := bumps_len ps [] 6
    by_cases q : 6 < (bumpsF ps []).length
    · rcases this.mp q with a | ⟨p, hp, a⟩
      · simp at a
      · have := h p hp; omega
    · omega
  have hz : runF (fun i => ([] : List Int).getD i 0) tab 6 = 0 := by simp [runF]
  unfold levelF
  rw [h1, h2, h3, ← il_more (bumpsF ps []) ht 6 (by omega), il_run, run_bumps ht ps [] h, hz, Int.zero_add]
  unfold colF
  have : ∀ l : List Int, tab * ((l.map fun p => Int.fdiv p tab).sum + l.length) = (l.map fun w => (Int.fdiv w tab + 1) * tab).sum := by
    intro l
    induction l with
    | nil => simp
    | cons a l ih =>
      simp only [List.map_cons, List.sum_cons, List.length_cons, Int.natCast_add, Int.natCast_one] at ih ⊢
      rw [← ih, Int.mul_comm (a.fdiv tab + 1) tab, ← Int.mul_add]
      congr 1
      omega
  rw [← this ps]
  simp
theorem long_codes {ps qs : List Int} (hp : ∀ a ∈ ps, 0 ≤ a ∧ a < 6) (hq : ∀ a ∈ qs, 0 ≤ a ∧ a < 6) {M : Int} (hm : M ∈ ps ++ qs) (hM : ∀ a ∈ ps ++ qs, a ≤ M) :
    max (longF (wsFold (codesF ps))) (longF (wsFold (codesF qs))) = M := by
  have h0 : 0 ≤ M := by rcases List.mem_append.mp hm with h | h; exact (hp M h).1; exact (hq M h).1
  have up : ∀ l : List Int, (∀ a ∈ l, a ≤ M) → longF (wsFold (codesF l)) ≤ M := fun l hl => by
    unfold longF
    rw [(ws_codes l).1, (ws_codes l).2.1]
    have := bumps_len l [] (M.toNat + 1)
    by_cases q : M.toNat + 1 < (bumpsF l []).length
    · rcases this.mp q with a | ⟨p, hp, a⟩
      · simp at a
      · have := hl p hp; omega
    · omega
  have lo : ∀ l : List Int, M ∈ l → M ≤ longF (wsFold (codesF l)) := fun l hl => by
    unfold longF
    rw [(ws_codes l).1]
    have := (bumps_len l [] M.toNat).mpr (.inr ⟨M, hl, Nat.le_refl _⟩)
    omega
  have u1 := up ps fun a ha => hM a (List.mem_append_left _ ha)
  have u2 := up qs fun a ha => hM a (List.mem_append_right _ ha)
  rcases List.mem_append.mp hm with h | h
  · have := lo ps h; omega
  · have := lo qs h; omega
end Mine
namespace Mine
open PySem PySem.W PySem.Calls PySem.Spec PyProof.Rows
theorem fm {a b : Int} (h : 0 ≤ b) : Int.fmod a b = a % b := Int.fmod_eq_emod_of_nonneg _ h
section
variable {sz t : Int}
theorem rot_inj (h : sz = 5 ∨ sz = 6) {p q : Int} (hp : 0 ≤ p ∧ p < sz) (hq : 0 ≤ q ∧ q < sz) (e : Int.fmod (p + t) sz = Int.fmod (q + t) sz) : p = q := by
  rcases h with rfl | rfl <;> rw [fm (by decide), fm (by decide)] at e <;> omega
theorem rot_step (h : sz = 5 ∨ sz = 6) {p : Int} : Int.fmod (Int.fmod (p + t) sz + 1) sz = Int.fmod (Int.fmod (p + 1) sz + t) sz := by
  rcases h with rfl | rfl <;> simp only [fm (show (0 : Int) ≤ 5 by decide), fm (show (0 : Int) ≤ 6 by decide)] <;> omega
theorem rot_sub (h : sz = 5 ∨ sz = 6) {p q : Int} : Int.fmod (Int.fmod (p + t) sz - Int.fmod (q + t) sz) sz = Int.fmod (p - q) sz := by
  rcases h with rfl | rfl <;> simp only [fm (show (0 : Int) ≤ 5 by decide), fm (show (0 : Int) ≤ 6 by decide)] <;> omega
theorem rot_mem (h : sz = 5 ∨ sz = 6) {T : List Int} (hT : ∀ a ∈ T, 0 ≤ a ∧ a < sz) {p : Int} (hp : 0 ≤ p ∧ p < sz) : Int.fmod (p + t) sz ∈ T.map (fun a => Int.fmod (a + t) sz) ↔ p ∈ T := by
  rw [List.mem_map]
  constructor
  · rintro ⟨a, ha, e⟩
    rwa [← rot_inj h (hT a ha) hp e]
  · exact fun hm => ⟨p, hm, rfl⟩
theorem pos_of (h : sz = 5 ∨ sz = 6) : 0 < sz := by omega
theorem probe_rot (h : sz = 5 ∨ sz = 6) {T : List Int} (hT : ∀ a ∈ T, 0 ≤ a ∧ a < sz) : ∀ (f : Nat) {p : Int}, 0 ≤ p ∧ p < sz → probeF sz (T.map fun a => Int.fmod (a + t) sz) f (Int.fmod (p + t) sz) = Int.fmod (probeF sz T f p + t) sz
  | 0, _, _ => rfl
  | f + 1, p, hp => by
    unfold probeF
    by_cases hm : p ∈ T
    · rw [if_pos hm, if_pos ((rot_mem h hT hp).mpr hm), rot_step h]
      exact probe_rot h hT f ⟨fmod_lo (pos_of h), fmod_hi (pos_of h)⟩
    · rw [if_neg hm, if_neg (fun q => hm ((rot_mem h hT hp).mp q))]
theorem seats_rot (h : sz = 5 ∨ sz = 6) : ∀ (ws T : List Int), (∀ a ∈ ws, 0 ≤ a ∧ a < sz) → (∀ a ∈ T, 0 ≤ a ∧ a < sz) → seatsF sz (T.map fun a => Int.fmod (a + t) sz) (ws.map fun a => Int.fmod (a + t) sz) = (seatsF sz T ws).map fun a => Int.fmod (a + t) sz
  | [], _, _, _ => rfl
  | w :: ws, T, hw, hT => by
    have h0 := hw w (.head _)
    have ih := seats_rot h ws (T ++ [probeF sz T 6 w]) (fun a ha => hw a (.tail _ ha)) fun a ha => by
      rcases List.mem_append.mp ha with ha | ha
      · exact hT a ha
      · rw [List.mem_singleton] at ha
        subst ha
        exact probe_range (pos_of h) 6 h0.1 h0.2
    rw [List.map_cons]
    unfold seatsF
    rw [← ih, probe_rot h hT 6 h0, List.map_append]
    rfl
theorem probe_congr {T T' : List Int} (hs : 0 < sz) (hm : ∀ x, 0 ≤ x → x < sz → (x ∈ T ↔ x ∈ T')) : ∀ (f : Nat) {p : Int}, 0 ≤ p ∧ p < sz → probeF sz T f p = probeF sz T' f p
  | 0, _, _ => rfl
  | f + 1, p, hp => by
    unfold probeF
    by_cases q : p ∈ T
    · rw [if_pos q, if_pos ((hm p hp.1 hp.2).mp q)]
      exact probe_congr hs hm f ⟨fmod_lo hs, fmod_hi hs⟩
    · rw [if_neg q, if_neg (fun q' => q ((hm p hp.1 hp.2).mpr q'))]
theorem cnt_rot (h : sz = 5 ∨ sz = 6) (ws : List Int) (q n : Int) : cntF (ws.map fun a => Int.fmod (a + t) sz) (Int.fmod (q + t) sz) sz n = cntF ws q sz n := by
  unfold cntF
  rw [List.filter_map, List.length_map]
  congr 2
  funext w
  simp only [Function.comp, rot_sub h]
theorem taken_rot (h : sz = 5 ∨ sz = 6) (ws : List Int) (q : Int) : takenF (ws.map fun a => Int.fmod (a + t) sz) (Int.fmod (q + t) sz) sz = takenF ws q sz := by
  unfold takenF
  simp only [cnt_rot h]
theorem taken_perm {ws ws' : List Int} (p : ws.Perm ws') (q : Int) : takenF ws q sz = takenF ws' q sz := by
  unfold takenF cntF
  congr 1
  funext j
  rw [(p.filter _).length_eq]
end
/-- sorted lists -/
noncomputable def srt (sz : Nat) : Nat → Nat → List (List Int)
  | 0, _ => [[]]
  | k + 1, lo => (List.range sz).flatMap fun a => if lo ≤ a then (srt sz k a).map (((a : Nat) : Int) :: ·) else []
theorem mem_srt {sz : Nat} : ∀ (l : List Int) (lo : Nat), l.Pairwise (· ≤ ·) → (∀ a ∈ l, (lo : Int) ≤ a ∧ a < sz) → l ∈ srt sz l.length lo
  | [], _, _, _ => .head _
  | a :: l, lo, hs, hr => by
    have ha := hr a (.head _)
    have hs' := List.pairwise_cons.mp hs
    unfold srt
    refine List.mem_flatMap.mpr ⟨a.toNat, List.mem_range.mpr (by omega), ?_⟩
    rw [if_pos (by omega)]
    refine List.mem_map.mpr ⟨l, mem_srt l a.toNat hs'.2 fun b hb => ?_, by rw [show ((a.toNat : Nat) : Int) = a from by omega]⟩
    have := hs'.1 b hb
    have := hr b (.tail _ hb)
    omega
/-- the seats taken -/
noncomputable def tkF (l : List Int) (sz : Int) : List Int := ((List.range sz.toNat).map fun n : Nat => (n : Int)).filter fun q => takenF l q sz
theorem mem_tk {l : List Int} {sz q : Int} (h0 : 0 ≤ q) (h1 : q < sz) : q ∈ tkF l sz ↔ takenF l q sz = true := by
  unfold tkF
  rw [List.mem_filter, List.mem_map]
  exact ⟨fun h => h.2, fun h => ⟨⟨q.toNat, List.mem_range.mpr (by omega), by omega⟩, h⟩⟩
theorem tk_range {l : List Int} {sz : Int} : ∀ a ∈ tkF l sz, 0 ≤ a ∧ a < sz := fun a ha => by
  unfold tkF at ha
  obtain ⟨n, hn, rfl⟩ := List.mem_map.mp (List.mem_filter.mp ha).1
  rw [List.mem_range] at hn
  omega
noncomputable def chkA (sz : Int) (l : List Int) : Bool := (List.range sz.toNat).all fun p => takenF (0 :: l) (p : Nat) sz == (takenF l (p : Nat) sz || ((p : Nat) : Int) == probeF sz (tkF l sz) 6 0)
noncomputable def chkB (sz : Int) (os : List Int) : Bool := ((List.range sz.toNat).all fun p => takenF os (p : Nat) sz == decide (((p : Nat) : Int) < sz - 1)) == (overF os (sz - 1).toNat).isEmpty
theorem chkA_5 : ∀ k : Fin 4, (srt 5 k.1 0).all (chkA 5) = true := by decide +kernel
theorem chkA_6 : ∀ k : Fin 5, (srt 6 k.1 0).all (chkA 6) = true := by decide +kernel
theorem chkB_5 : (srt 5 4 0).all (chkB 5) = true := by decide +kernel
theorem chkB_6 : (srt 6 5 0).all (chkB 6) = true := by decide +kernel
end Mine
namespace Mine
open PySem PySem.W PySem.Calls PySem.Spec PyProof.Rows
theorem chkA_all {sz : Int} (h : sz = 5 ∨ sz = 6) {l : List Int} (hs : l.Pairwise (· ≤ ·)) (hr : ∀ a ∈ l, 0 ≤ a ∧ a < sz) (hl : (l.length : Int) + 2 ≤ sz) : chkA sz l = true := by
  rcases h with rfl | rfl
  · have := chkA_5 ⟨l.length, by omega⟩
    rw [List.all_eq_true] at this
    exact this l (mem_srt l 0 hs fun a ha => by have := hr a ha; omega)
  · have := chkA_6 ⟨l.length, by omega⟩
    rw [List.all_eq_true] at this
    exact this l (mem_srt l 0 hs fun a ha => by have := hr a ha; omega)
theorem chkB_all {sz : Int} (h : sz = 5 ∨ sz = 6) {l : List Int} (hs : l.Pairwise (· ≤ ·)) (hr : ∀ a ∈ l, 0 ≤ a ∧ a < sz) (hl : (l.length : Int) = sz - 1) : chkB sz l = true := by
  rcases h with rfl | rfl
  · have h5 : l.length = 4 := by omega
    have := chkB_5
    rw [List.all_eq_true] at this
    exact this l (h5 ▸ mem_srt l 0 hs fun a ha => by have := hr a ha; omega)
  · have h5 : l.length = 5 := by omega
    have := chkB_6
    rw [List.all_eq_true] at this
    exact this l (h5 ▸ mem_srt l 0 hs fun a ha => by have := hr a ha; omega)
theorem sort_pw (l : List Int) : (l.mergeSort fun a b => decide (a ≤ b)).Pairwise (· ≤ ·) := by
  have := List.pairwise_mergeSort (le := fun a b : Int => decide (a ≤ b)) (fun a b c => by simp only [decide_eq_true_eq]; omega) (fun a b => by simp only [Bool.or_eq_true, decide_eq_true_eq]; omega) l
  exact this.imp fun h => by simpa using h
theorem taken_step {sz : Int} (h : sz = 5 ∨ sz = 6) {l : List Int} (hr : ∀ a ∈ l, 0 ≤ a ∧ a < sz) (hl : (l.length : Int) + 2 ≤ sz) {w : Int} (hw : 0 ≤ w ∧ w < sz) {p : Int} (hp : 0 ≤ p ∧ p < sz) :
    takenF (l ++ [w]) p sz = (takenF l p sz || p == probeF sz (tkF l sz) 6 w) := by
  have hpos := pos_of h
  have hwr : Int.fmod (w + (sz - w)) sz = 0 := by rw [show w + (sz - w) = sz from by omega]; exact Int.fmod_self
  have hq := probe_range hpos (T := tkF l sz) 6 hw.1 hw.2
  have hrot := probe_rot (t := sz - w) h (T := tkF l sz) tk_range 6 hw
  have h1 := taken_rot (t := sz - w) h (l ++ [w]) p
  have h2 := taken_rot (t := sz - w) h l p
  have hinj : (Int.fmod (p + (sz - w)) sz == Int.fmod (probeF sz (tkF l sz) 6 w + (sz - w)) sz) = (p == probeF sz (tkF l sz) 6 w) := by
    by_cases e : p = probeF sz (tkF l sz) 6 w
    · rw [← e]; simp
    · have : Int.fmod (p + (sz - w)) sz ≠ Int.fmod (probeF sz (tkF l sz) 6 w + (sz - w)) sz := fun q => e (rot_inj h hp hq q)
      rw [beq_eq_false_iff_ne.mpr this, beq_eq_false_iff_ne.mpr e]
  rw [List.map_append, List.map_singleton, hwr] at h1
  rw [hwr] at hrot
  have hpm := List.mergeSort_perm (l.map fun a => Int.fmod (a + (sz - w)) sz) (fun a b => decide (a ≤ b))
  have hpw := sort_pw (l.map fun a => Int.fmod (a + (sz - w)) sz)
  generalize (l.map fun a => Int.fmod (a + (sz - w)) sz).mergeSort (fun a b => decide (a ≤ b)) = l' at hpm hpw
  have hlr : ∀ a ∈ l', 0 ≤ a ∧ a < sz := fun a ha => by
    obtain ⟨b, _, rfl⟩ := List.mem_map.mp (hpm.mem_iff.mp ha)
    exact ⟨fmod_lo hpos, fmod_hi hpos⟩
  have hll : (l'.length : Int) + 2 ≤ sz := by rw [hpm.length_eq, List.length_map]; exact hl
  have hc := chkA_all h hpw hlr hll
  unfold chkA at hc
  rw [List.all_eq_true] at hc
  have hp0 := fmod_lo (a := p + (sz - w)) hpos
  have hp1 := fmod_hi (a := p + (sz - w)) hpos
  have hcp := hc (Int.fmod (p + (sz - w)) sz).toNat (List.mem_range.mpr (by omega))
  rw [beq_iff_eq, show (((Int.fmod (p + (sz - w)) sz).toNat : Nat) : Int) = Int.fmod (p + (sz - w)) sz from by omega] at hcp
  have hcong : probeF sz ((tkF l sz).map fun a => Int.fmod (a + (sz - w)) sz) 6 0 = probeF sz (tkF l' sz) 6 0 := by
    refine probe_congr hpos (fun x x0 x1 => ?_) 6 ⟨Int.le_refl _, hpos⟩
    rw [mem_tk x0 x1, taken_perm hpm]
    have hx : Int.fmod (Int.fmod (x + w) sz + (sz - w)) sz = x := by
      rcases h with rfl | rfl <;> simp only [fm (show (0 : Int) ≤ 5 by decide), fm (show (0 : Int) ≤ 6 by decide)] <;> omega
    have hy := rot_mem (t := sz - w) h (T := tkF l sz) tk_range (p := Int.fmod (x + w) sz) ⟨fmod_lo hpos, fmod_hi hpos⟩
    rw [hx, mem_tk (fmod_lo hpos) (fmod_hi hpos)] at hy
    rw [hy, ← taken_rot (t := sz - w) h l, hx]
  rw [← h1, ← h2, taken_perm (List.perm_append_comm.trans ((hpm.symm.cons 0))), hcp, ← hcong, hrot, hinj, taken_perm hpm]
/-- the seats are those that the count tells -/
theorem seats_taken {sz : Int} (h : sz = 5 ∨ sz = 6) {ws : List Int} (hr : ∀ a ∈ ws, 0 ≤ a ∧ a < sz) (hl : (ws.length : Int) + 1 ≤ sz) :
    ∀ k, k ≤ ws.length → (seatsF sz [] (ws.take k)).Nodup ∧ ∀ q, 0 ≤ q → q < sz → (q ∈ seatsF sz [] (ws.take k) ↔ takenF (ws.take k) q sz = true)
  | 0, _ => by
    refine ⟨List.nodup_nil, fun q _ _ => ⟨fun hm => (nomatch hm), fun ht => ?_⟩⟩
    unfold takenF cntF at ht
    rw [List.any_eq_true] at ht
    obtain ⟨j, _, hj⟩ := ht
    have hj := of_decide_eq_true hj
    simp only [List.take_zero, List.filter_nil, List.length_nil] at hj
    omega
  | k + 1, hk => by
    obtain ⟨hn, ih⟩ := seats_taken h hr hl k (by omega)
    have hw := hr ws[k] (List.getElem_mem _)
    have htr : ∀ a ∈ ws.take k, 0 ≤ a ∧ a < sz := fun a ha => hr a (List.mem_of_mem_take ha)
    have hsr := seats_range (pos_of h) (ws.take k) [] htr (fun _ hm => by cases hm)
    have hlen : (seatsF sz [] (ws.take k)).length = k := by rw [seats_len, List.length_take]; simp only [List.length_nil]; omega
    rw [List.take_succ_eq_append_getElem (by omega), seats_snoc]
    have hpc : probeF sz (seatsF sz [] (ws.take k)) 6 ws[k] = probeF sz (tkF (ws.take k) sz) 6 ws[k] := probe_congr (pos_of h) (fun x x0 x1 => by rw [ih x x0 x1, mem_tk x0 x1]) 6 hw
    have hfree : probeF sz (seatsF sz [] (ws.take k)) 6 ws[k] ∉ seatsF sz [] (ws.take k) := probe_free (by omega) (by omega) (by rw [hlen]; omega) hw.1 hw.2
    refine ⟨?_, fun q q0 q1 => ?_⟩
    · rw [List.nodup_append]
      refine ⟨hn, by simp, fun a ha b hb e => ?_⟩
      rw [List.mem_singleton] at hb
      subst hb
      subst e
      exact hfree ha
    · rw [taken_step h htr (by rw [List.length_take]; omega) hw ⟨q0, q1⟩, Bool.or_eq_true, beq_iff_eq, ← hpc, List.mem_append, List.mem_singleton, ih q q0 q1]
theorem portsIn_one {l ps : List Int} {sz q : Int} (hq : 0 ≤ q) (h : ∀ j : Nat, (j : Int) < sz → ((j : Int) ∉ ps ∧ takenF l j sz = true ↔ (j : Int) = q)) : ∀ n : Nat, (n : Int) ≤ sz → portsIn l sz ps n = if q < n then ps ++ [q] else ps
  | 0, _ => by rw [if_neg (by omega)]; rfl
  | n + 1, hn => by
    have ih := portsIn_one hq h n (by omega)
    have hn' := h n (by omega)
    unfold portsIn
    rw [ih]
    by_cases e : (n : Int) = q
    · obtain ⟨a, b⟩ := hn'.mpr e
      rw [if_neg (by omega : ¬ q < (n : Int)), if_pos (by omega : q < ((n + 1 : Nat) : Int)), if_pos, e]
      rw [Bool.and_eq_true, b]
      refine ⟨?_, rfl⟩
      rw [Bool.not_eq_true', List.any_eq_false]
      intro x hx hxe
      rw [beq_iff_eq] at hxe
      exact a (hxe ▸ hx)
    · have hno : ¬ (((!((if q < (n : Int) then ps ++ [q] else ps).any fun x => x == (n : Int))) && takenF l n sz) = true) := by
        rw [Bool.and_eq_true, Bool.not_eq_true', List.any_eq_false]
        rintro ⟨a, b⟩
        refine e (hn'.mp ⟨fun hm => ?_, b⟩)
        refine a n ?_ (by simp)
        split
        · exact List.mem_append_left _ hm
        · exact hm
      rw [if_neg hno]
      by_cases g : q < (n : Int)
      · rw [if_pos g, if_pos (by omega)]
      · rw [if_neg g, if_neg (by omega)]
theorem ports_seats {sz : Int} (h : sz = 5 ∨ sz = 6) {ws : List Int} (hr : ∀ a ∈ ws, 0 ≤ a ∧ a < sz) (hl : (ws.length : Int) + 1 ≤ sz) : ∀ k, k ≤ ws.length → portsF ws sz k = seatsF sz [] (ws.take k)
  | 0, _ => rfl
  | k + 1, hk => by
    have ih := ports_seats h hr hl k (by omega)
    obtain ⟨_, hs⟩ := seats_taken h hr hl k (by omega)
    obtain ⟨hn1, hs1⟩ := seats_taken h hr hl (k + 1) hk
    have hw := hr ws[k] (List.getElem_mem _)
    have hq := probe_range (pos_of h) (T := seatsF sz [] (ws.take k)) 6 hw.1 hw.2
    unfold portsF
    rw [ih]
    have e : ws.take (k + 1) = ws.take k ++ [ws[k]] := List.take_succ_eq_append_getElem (by omega)
    rw [e, seats_snoc] at hn1 hs1 ⊢
    rw [portsIn_one (q := probeF sz (seatsF sz [] (ws.take k)) 6 ws[k]) hq.1 (fun j hj => ?_) sz.toNat (by have := pos_of h; omega), if_pos (by have := pos_of h; omega)]
    rw [← hs1 j (by omega) hj, List.mem_append, List.mem_singleton]
    rw [List.nodup_append] at hn1
    constructor
    · rintro ⟨a, b | b⟩
      · exact absurd b a
      · exact b
    · intro b
      exact ⟨fun a => hn1.2.2 _ a _ (List.mem_singleton.mpr rfl) b, .inr b⟩
theorem stands_seats {sz : Int} (t : Int) {ws : List Int} : standsF t sz ws ws.length = seatsF sz [] (ws.map fun a => Int.fmod (a + t) sz) := by
  unfold standsF
  rw [List.take_length]
theorem map_zero {sz : Int} {ws : List Int} (hr : ∀ a ∈ ws, 0 ≤ a ∧ a < sz) : (ws.map fun a => Int.fmod (a + 0) sz) = ws := by
  conv => rhs; rw [← List.map_id ws]
  refine List.map_congr_left fun a ha => ?_
  rw [Int.add_zero]
  exact Int.fmod_eq_of_lt (hr a ha).1 (hr a ha).2
end Mine
namespace Mine
open PySem PySem.W PySem.Calls PySem.Spec PyProof.Rows
theorem went_all : ∀ s : Fin 2, ∀ w : Fin 6, ∀ tab : Fin 6, ∀ n : Fin 6, (w.1 : Int) < 5 + (s.1 : Int) → wentIn (w.1 : Int) (5 + (s.1 : Int)) (1 + (tab.1 : Int)) n.1 = Int.fdiv (Int.fmod ((w.1 : Int) + (n.1 : Int)) (5 + (s.1 : Int))) (1 + (tab.1 : Int)) - Int.fdiv (w.1 : Int) (1 + (tab.1 : Int)) := by decide +kernel
theorem went_one {sz : Int} (h : sz = 5 ∨ sz = 6) {w : Int} (hw : 0 ≤ w ∧ w < sz) {tab : Int} (t0 : 1 ≤ tab) (t1 : tab ≤ 6) {n : Nat} (hn : n ≤ 5) : wentIn w sz tab n = Int.fdiv (Int.fmod (w + n) sz) tab - Int.fdiv w tab := by
  obtain ⟨a, rfl⟩ := Int.eq_ofNat_of_zero_le hw.1
  obtain ⟨b, rfl⟩ : ∃ b : Nat, tab = 1 + (b : Int) := ⟨(tab - 1).toNat, by omega⟩
  rcases h with rfl | rfl
  · exact went_all 0 ⟨a, by omega⟩ ⟨b, by omega⟩ ⟨n, by omega⟩ hw.2
  · exact went_all 1 ⟨a, by omega⟩ ⟨b, by omega⟩ ⟨n, by omega⟩ hw.2
theorem col_succ {l : List Int} {tab : Int} {k : Nat} (hk : k < l.length) : colF (l.take (k + 1)) tab = colF (l.take k) tab + (Int.fdiv (l.getD k 0) tab + 1) * tab := by
  unfold colF
  rw [List.take_succ_eq_append_getElem hk, List.map_append, List.sum_append, List.getD_eq_getElem?_getD, List.getElem?_eq_getElem hk]
  simp
theorem went_col {sz : Int} (h : sz = 5 ∨ sz = 6) {wd ss : List Int} (hwd : ∀ a ∈ wd, 0 ≤ a ∧ a < sz) (hss : ∀ a ∈ ss, 0 ≤ a ∧ a < sz) (hl : ss.length = wd.length) {tab : Int} (t0 : 1 ≤ tab) (t1 : tab ≤ 6) :
    ∀ k, k ≤ wd.length → colF (ss.take k) tab = colF (wd.take k) tab + tab * wentF wd ss tab sz k
  | 0, _ => by simp [wentF]
  | k + 1, hk => by
    have ih := went_col h hwd hss hl t0 t1 k (by omega)
    have e1 : wd.getD k 0 = wd[k] := by rw [List.getD_eq_getElem?_getD, List.getElem?_eq_getElem (by omega)]; rfl
    have e2 : ss.getD k 0 = ss[k] := by rw [List.getD_eq_getElem?_getD, List.getElem?_eq_getElem (by omega)]; rfl
    have hw := hwd wd[k] (List.getElem_mem _)
    have hs := hss ss[k] (List.getElem_mem _)
    have hd0 := fmod_lo (a := ss[k] - wd[k]) (pos_of h)
    have hd1 := fmod_hi (a := ss[k] - wd[k]) (pos_of h)
    rw [col_succ (by omega), col_succ (by omega), wentF_succ, ih, e1, e2, went_one h hw t0 t1 (n := (Int.fmod (ss[k] - wd[k]) sz).toNat) (by omega)]
    have hm : Int.fmod (wd[k] + ((Int.fmod (ss[k] - wd[k]) sz).toNat : Nat)) sz = ss[k] := by
      rw [show (((Int.fmod (ss[k] - wd[k]) sz).toNat : Nat) : Int) = Int.fmod (ss[k] - wd[k]) sz from by omega]
      generalize ss[k] = x at *
      generalize wd[k] = y at *
      rcases h with rfl | rfl <;> simp only [fm (show (0 : Int) ≤ 5 by decide), fm (show (0 : Int) ≤ 6 by decide)] <;> omega
    rw [hm, Int.add_mul, Int.add_mul, Int.mul_add, Int.mul_sub, Int.mul_comm tab (Int.fdiv ss[k] tab), Int.mul_comm tab (Int.fdiv wd[k] tab)]
    omega
theorem wit_due {wd ss : List Int} {sz : Int} {st st' : WsSt} {N : Nat} (h1 : ∀ tab : Int, 1 ≤ tab → tab ≤ N → levelF st tab = colF ss tab) (h2 : ∀ tab : Int, 1 ≤ tab → tab ≤ N → levelF st' tab = colF wd tab)
    (h3 : ∀ tab : Int, 1 ≤ tab → tab ≤ N → colF ss tab = colF wd tab + tab * wentF wd ss tab sz wd.length) : ∀ n, n ≤ N → witF st st' n = dueF wd ss sz n
  | 0, _ => rfl
  | n + 1, hn => by
    have ih := wit_due h1 h2 h3 n (by omega)
    have a := h1 (1 + (n : Int)) (by omega) (by omega)
    have b := h2 (1 + (n : Int)) (by omega) (by omega)
    have c := h3 (1 + (n : Int)) (by omega) (by omega)
    unfold witF dueF
    rw [ih, a, b, c]
    congr 1
    by_cases q : wentF wd ss (1 + (n : Int)) sz wd.length = 0
    · rw [if_pos q, if_pos (by rw [q]; omega)]
    · rw [if_neg q, if_neg (fun e => q ?_)]
      have : (1 + (n : Int)) * wentF wd ss (1 + (n : Int)) sz wd.length = 0 := by omega
      rcases Int.mul_eq_zero.mp this with e | e
      · omega
      · exact e
theorem upTo_facts {sz : Int} (h : sz = 5 ∨ sz = 6) : (upTo (sz - 1)).Nodup ∧ (∀ a ∈ upTo (sz - 1), 0 ≤ a ∧ a < 6) ∧ ∀ q, q ∈ upTo (sz - 1) ↔ 0 ≤ q ∧ q < sz - 1 := by
  have hm : ∀ q, q ∈ upTo (sz - 1) ↔ 0 ≤ q ∧ q < sz - 1 := fun q => by
    unfold upTo
    rw [List.mem_map]
    constructor
    · rintro ⟨n, hn, rfl⟩
      rw [List.mem_range] at hn
      omega
    · rintro ⟨a, b⟩
      exact ⟨q.toNat, List.mem_range.mpr (by omega), by omega⟩
  refine ⟨?_, fun a ha => by have := (hm a).mp ha; omega, hm⟩
  unfold upTo List.Nodup
  rw [List.pairwise_map]
  exact List.Pairwise.imp (fun h => by omega) (List.nodup_range (n := (sz - 1).toNat))
theorem law_facts {sz : Int} (h : sz = 5 ∨ sz = 6) {ws : List Int} (hr : ∀ a ∈ ws, 0 ≤ a ∧ a < sz) (hl : (ws.length : Int) = sz - 1) : LawFacts ws sz := by
  have hpos := pos_of h
  have hP : portsF ws sz ws.length = seatsF sz [] ws := by
    rw [ports_seats h hr (by omega) ws.length (Nat.le_refl _), List.take_length]
  have hlen : (seatsF sz [] ws).length = ws.length := by rw [seats_len]; simp
  have hPr : ∀ a ∈ seatsF sz [] ws, 0 ≤ a ∧ a < sz := seats_range hpos ws [] hr (fun _ hm => nomatch hm)
  have rr : ∀ (t : Int) (l : List Int), ∀ a ∈ l.map (fun a => Int.fmod (a + t) sz), 0 ≤ a ∧ a < sz := fun t l a ha => by
    obtain ⟨b, _, rfl⟩ := List.mem_map.mp ha
    exact ⟨fmod_lo hpos, fmod_hi hpos⟩
  have r6 : ∀ (l : List Int), (∀ a ∈ l, 0 ≤ a ∧ a < sz) → ∀ a ∈ l, 0 ≤ a ∧ a < 6 := fun l hl a ha => by have := hl a ha; omega
  have hrot : ∀ t : Int, seatsF sz [] (ws.map fun a => Int.fmod (a + t) sz) = (seatsF sz [] ws).map fun a => Int.fmod (a + t) sz := fun t => seats_rot h ws [] hr (fun _ hm => nomatch hm)
  have hset : ∀ l : List Int, (∀ a ∈ l, 0 ≤ a ∧ a < sz) → l.length = ws.length → (seatsF sz [] l).Nodup ∧ ∀ q, 0 ≤ q → q < sz → (q ∈ seatsF sz [] l ↔ takenF l q sz = true) := fun l hl' e => by
    have := seats_taken h hl' (by omega) l.length (Nat.le_refl _)
    rwa [List.take_length] at this
  refine ⟨?_, ?_, ?_, ?_, ?_, ?_⟩
  · rw [hP, hlen]
  · intro turn _ _
    rw [hP, stands_seats, hrot]
  · intro turn _ _ os hpo hso
    rw [hP, ← hrot]
    have hor : ∀ a ∈ os, 0 ≤ a ∧ a < sz := fun a ha => rr turn ws a (hpo.mem_iff.mp ha)
    have hol : (os.length : Int) = sz - 1 := by rw [hpo.length_eq, List.length_map]; exact hl
    have hB := chkB_all h hso hor hol
    obtain ⟨u1, u2, u3⟩ := upTo_facts h
    obtain ⟨s1, s2⟩ := hset (ws.map fun a => Int.fmod (a + turn) sz) (rr turn ws) (by rw [List.length_map])
    have sr := seats_range hpos (ws.map fun a => Int.fmod (a + turn) sz) [] (rr turn ws) (fun _ hm => nomatch hm)
    rw [decide_eq_decide, norm_iff (r6 _ sr) u2, List.perm_ext_iff_of_nodup s1 u1]
    unfold chkB at hB
    rw [beq_iff_eq, Bool.eq_iff_iff, List.all_eq_true, List.isEmpty_iff, show (sz - 1).toNat = ws.length from by omega] at hB
    rw [← hB]
    constructor
    · intro H p hp
      rw [List.mem_range] at hp
      have := s2 p (by omega) (by omega)
      rw [beq_iff_eq, ← taken_perm hpo.symm, Bool.eq_iff_iff, ← this, H, u3, decide_eq_true_eq]
      omega
    · intro H q
      by_cases hq : 0 ≤ q ∧ q < sz
      · have := H q.toNat (List.mem_range.mpr (by omega))
        rw [beq_iff_eq, show ((q.toNat : Nat) : Int) = q from by omega] at this
        rw [s2 q hq.1 hq.2, taken_perm hpo.symm, this, u3, decide_eq_true_eq]
        omega
      · rw [u3]
        exact ⟨fun m => absurd (sr q m) hq, fun m => absurd (by omega) hq⟩
  · intro turn _ _ os hpo hso qs hpq hsq
    rw [hP] at hpq ⊢
    rw [decide_eq_decide, norm_iff (r6 _ (rr turn _)) (r6 _ (rr turn _))]
    constructor
    · intro p
      exact List.Perm.eq_of_pairwise (le := (· ≤ ·)) (fun a b _ _ x y => Int.le_antisymm x y) hsq hso (hpq.trans (p.trans hpo.symm))
    · intro e
      subst e
      exact hpq.symm.trans hpo
  · intro turn _ _ M hM hMa
    rw [hP] at hM hMa ⊢
    unfold witnessF
    have q1 := r6 _ (rr turn (seatsF sz [] ws))
    have q2 := r6 _ (rr turn ws)
    have hM6 : 0 ≤ M ∧ M < 6 := by rcases List.mem_append.mp hM with e | e; exact q1 M e; exact q2 M e
    rw [long_codes q1 q2 hM hMa]
    refine wit_due (N := (M + 1).toNat) (fun tab a _ => level_codes q1 a) (fun tab a _ => level_codes q2 a) (fun tab a b => ?_) _ (Nat.le_refl _)
    have hll : ((seatsF sz [] ws).map fun p => Int.fmod (p + turn) sz).length = (ws.map fun a => Int.fmod (a + turn) sz).length := by rw [List.length_map, List.length_map, hlen]
    have := went_col h (rr turn ws) (rr turn (seatsF sz [] ws)) hll a (by omega) (ws.map fun a => Int.fmod (a + turn) sz).length (Nat.le_refl _)
    rw [List.take_length, ← hll, List.take_length, hll] at this
    exact this
  · have hrr : ∀ a ∈ ws.reverse, 0 ≤ a ∧ a < sz := fun a ha => hr a (List.mem_reverse.mp ha)
    obtain ⟨s1, s2⟩ := hset ws hr rfl
    obtain ⟨b1, b2⟩ := hset ws.reverse hrr (by rw [List.length_reverse])
    have e : standsF 0 sz ws.reverse ws.length = seatsF sz [] ws.reverse := by
      have := stands_seats (sz := sz) 0 (ws := ws.reverse)
      rw [List.length_reverse, map_zero hrr] at this
      exact this
    rw [hP, e]
    have br := seats_range hpos ws.reverse [] hrr (fun _ hm => nomatch hm)
    rw [norm_iff (r6 _ br) (r6 _ hPr), List.perm_ext_iff_of_nodup b1 s1]
    intro q
    by_cases hq : 0 ≤ q ∧ q < sz
    · rw [b2 q hq.1 hq.2, s2 q hq.1 hq.2, taken_perm (List.reverse_perm ws)]
    · exact ⟨fun m => absurd (br q m) hq, fun m => absurd (hPr q m) hq⟩
end Mine
open PySem PySem.W PySem.Calls PySem.Spec PyProof.Rows
namespace Mine
local macro_rules | `(tactic| walk_at $s:str) => `(tactic| k_extra $s)
local macro_rules | `(tactic| k_inst) => `(tactic| (refine' inst_base ?F ?a ?b; (case F => k_asm); (case a => assumption); (case b => assumption)))
theorem linesLawX : True := by
  w_top off
  k_with_none
  k_with "getMethod ref" => ((k_here; (with_reducible show wpAny _ _ (getMethod (Value.ref _) (Str.ofString "search") _) _ _ _); k_dflt (refine' search_meth (by k_asm) (by k_asm) (by k_is) ?_; k_whole)))
  k_with "call builtin:re.Pattern.search" => ((k_here; k_dflt (first
  | (refine' search_name (by k_asm) (by k_asm) (by k_is) (by k_is) (by decide +kernel) (by assumption) (by assumption) ?_; k_whole)
  | (refine' search_val (by k_asm) (by k_asm) (by k_is) (by k_is) (by decide +kernel) (by assumption) (by assumption) ?_; k_whole))))
  k_with "mine:le" => (exact Nat.le_of_ble_eq_true rfl)
  k_with "call builtin:str.lower" => ((k_here; (with_reducible show wpAny _ _ (call (Value.builtin "str.lower") [Value.str _ _]) _ _ _); k_dflt (refine' KXw.lower (by assumption) (by (exact low_fit (by assumption))) ?_; k_whole); intro t' k'))
  k_with "mine:moved" => (((rename Keep _ _ => kp9'); (with_reducible rename Fr _ _ _ _ => kF9); (with_reducible rename News _ _ _ _ => kN9); (replace kF9 := fr_keep kF9 kp9'); (replace kN9 := news_keep kN9 kp9'); (try dsimp only at kF9 kN9)))
  k_with "mine:movedN" => (((rename Keep _ _ => kp9'); (rename (Heap.get? _ _ = none) => hn9'); (rename (Heap.get? _ _ = some _) => hq9'); (with_reducible rename Fr _ _ _ _ => kF9); (with_reducible rename News _ _ _ _ => kN9); (replace kN9 := news_add kF9 (news_keep kN9 kp9') hn9' hq9'); (replace kF9 := fr_keep kF9 kp9'); (clear hn9' hq9'); (try dsimp only at kF9 kN9)))
  trivial
-- room for a contract at its place
-- a written text's lower case is named by a fact
-- behind a contract: the frame's and the ledger's facts at the new heap
-- behind a contract that made an object: its fact joins the ledger
/-- the law's body and scope, as the head holds them -/
noncomputable def lawX (P : Params) : { x : List Stmt × Scope // ∃ name qual params dV kV doc pm an cdv ct oc od osl, (Mine.KK P).lookup 319 = some ⟨oc, od, .func (fnOf name qual params x.1 x.2 dV kV doc pm an cdv ct), osl⟩ } :=
  ⟨(_, _), _, _, _, _, _, _, _, _, _, _, _, _, _, rfl⟩
/-- the rows from the fifth on: turn's loop and behind -/
noncomputable def tailX (P : Params) : { x : List Stmt // ∃ a b c d e, (lawX P).1.1 = a :: b :: c :: d :: e :: x } := ⟨_, _, _, _, _, _, rfl⟩
noncomputable def turnX (P : Params) : { x : List Stmt // ∃ tg it oe ps r, (tailX P).1 = .For tg it x oe ps :: r } := ⟨_, _, _, _, _, _, rfl⟩
theorem linesConv : True := by
  w_top off
  k_with_none
  k_with "getMethod ref" => ((k_here; (with_reducible show wpAny _ _ (getMethod (Value.ref _) (Str.ofString "search") _) _ _ _); k_dflt (refine' search_meth (by k_asm) (by k_asm) (by k_is) ?_; k_whole)))
  k_with "call builtin:re.Pattern.search" => ((k_here; k_dflt (first
  | (refine' search_name (by k_asm) (by k_asm) (by k_is) (by k_is) (by decide +kernel) (by assumption) (by assumption) ?_; k_whole)
  | (refine' search_val (by k_asm) (by k_asm) (by k_is) (by k_is) (by decide +kernel) (by assumption) (by assumption) ?_; k_whole))))
  k_with "mine:le" => (exact Nat.le_of_ble_eq_true rfl)
  k_with "call builtin:str.lower" => ((k_here; (with_reducible show wpAny _ _ (call (Value.builtin "str.lower") [Value.str _ _]) _ _ _); k_dflt (refine' KXw.lower (by assumption) (by (exact low_fit (by assumption))) ?_; k_whole); intro t' k'))
  k_with "mine:moved" => (((rename Keep _ _ => kp9'); (with_reducible rename Fr _ _ _ _ => kF9); (with_reducible rename News _ _ _ _ => kN9); (replace kF9 := fr_keep kF9 kp9'); (replace kN9 := news_keep kN9 kp9'); (try dsimp only at kF9 kN9)))
  k_with "mine:movedN" => (((rename Keep _ _ => kp9'); (rename (Heap.get? _ _ = none) => hn9'); (rename (Heap.get? _ _ = some _) => hq9'); (with_reducible rename Fr _ _ _ _ => kF9); (with_reducible rename News _ _ _ _ => kN9); (replace kN9 := news_add kF9 (news_keep kN9 kp9') hn9' hq9'); (replace kF9 := fr_keep kF9 kp9'); (clear hn9' hq9'); (try dsimp only at kF9 kN9)))
  trivial
-- room for a contract at its place
-- a written text's lower case is named by a fact
-- behind a contract: the frame's and the ledger's facts at the new heap
-- behind a contract that made an object: its fact joins the ledger
set_option maxHeartbeats 1000000 in
theorem conv_ok (w : World) {p : Program} {loose : List Str} {mean : ExcName → Option Value} {mg mb : Str → Option Value} {env : Env} {outer : List Env} {A₀ : Around} {base h₀ : Heap} {L : Addr} {m : Str → Option Value} {s : Shared} {Q E : Value → Shared → Prop}
  (B : Below A₀ base outer h₀) (F : Fr h₀ L s.heap m) (X : (Mine.KK w.params).In h₀) (T : Top p loose mean mg mb h₀) (hf : env.frame = some L) (hke : env.scope.kind = .function)
  {self : Value} {v : Str} {t : Tok} {b : Bool} (hv : Fine v) (hl : v.length ≤ 1048576)
  (hret : ∀ h' tk', Keep s.heap h' → Q (.str v t) { s with heap := h', toks := tk' }) :
  wpAny (model PySem.Challenge.rw_tl0048_01.prog w) (Ar 360 600 env outer) (call (.ref 70) [self, .str v t] [(Str.ofString "name", .bool b)]) Q E s := by
  revert X; k_fill; intro X
  refine wpAny_call ?_
  k_dflt (refine' base_plain (binds := [(Str.ofString "self", self), (Str.ofString "value", .str v t), (Str.ofString "name", .bool b)]) ?k1 ?k2 ?k3 ?k5 ?kA ?kF ?kK ?k6 ?k7 ?k8 ?k9 ?kB ?_ ?c2 ?c3 ?c4 ?c5; (case kA => exact rfl); (case kF => assumption); (case kK => assumption); (case k1 => k_asm); (case k2 => k_asm); (case k3 => k_asm); (case k5 => k_asm); (case k6 => k_is); (case k7 => k_is); (case k8 => exact Nat.le_of_ble_eq_true rfl); (case k9 => first | exact BindsTo.of_eq rfl | exact binds_K (by k_in) rfl (by k_is) rfl rfl rfl); (case c5 => decide); (case kB => exact locs rfl); (case c2 => exact rfl); (case c3 => exact rfl); (case c4 => exact rfl))
  intro L' h' F' B' X' T'
  have N' : News s.heap L' h' [] := News.nil
  clear B F X T
  (try dsimp only [List.reverse, List.reverseAux] at F')
  change wpAny _ _ _ _ _ _
  k_fold
  k_steps
  all_goals (exact hret _ _ (Fr.keep (by k_asm)))
theorem linesWsnew : True := by
  w_top off
  k_with_none
  k_with "getMethod ref" => ((k_here; (with_reducible show wpAny _ _ (getMethod (Value.ref _) (Str.ofString "search") _) _ _ _); k_dflt (refine' search_meth (by k_asm) (by k_asm) (by k_is) ?_; k_whole)))
  k_with "call builtin:re.Pattern.search" => ((k_here; k_dflt (first
  | (refine' search_name (by k_asm) (by k_asm) (by k_is) (by k_is) (by decide +kernel) (by assumption) (by assumption) ?_; k_whole)
  | (refine' search_val (by k_asm) (by k_asm) (by k_is) (by k_is) (by decide +kernel) (by assumption) (by assumption) ?_; k_whole))))
  k_with "mine:le" => (exact Nat.le_of_ble_eq_true rfl)
  k_with "call builtin:str.lower" => ((k_here; (with_reducible show wpAny _ _ (call (Value.builtin "str.lower") [Value.str _ _]) _ _ _); k_dflt (refine' KXw.lower (by assumption) (by (exact low_fit (by assumption))) ?_; k_whole); intro t' k'))
  k_with "mine:moved" => (((rename Keep _ _ => kp9'); (with_reducible rename Fr _ _ _ _ => kF9); (with_reducible rename News _ _ _ _ => kN9); (replace kF9 := fr_keep kF9 kp9'); (replace kN9 := news_keep kN9 kp9'); (try dsimp only at kF9 kN9)))
  k_with "mine:movedN" => (((rename Keep _ _ => kp9'); (rename (Heap.get? _ _ = none) => hn9'); (rename (Heap.get? _ _ = some _) => hq9'); (with_reducible rename Fr _ _ _ _ => kF9); (with_reducible rename News _ _ _ _ => kN9); (replace kN9 := news_add kF9 (news_keep kN9 kp9') hn9' hq9'); (replace kF9 := fr_keep kF9 kp9'); (clear hn9' hq9'); (try dsimp only at kF9 kN9)))
  k_with "exec For Name Attribute cons nil" => ((k_here; (with_reducible rename Fr _ _ _ _ => kF9); k_dflt (refine' For_textF kF9 (by exact rfl) ?_; k_whole)))
  k_with "newTuple" => ((k_here; k_dflt (refine' kup_newTuple (by k_asm) (by k_asm) ?_ (by kmk_size)); intro D' h' F' N' l1; (try k_lt l1)))
  k_with "call type:tuple" => ((k_here; (with_reducible show wpAny _ _ (call (Value.type _) [Value.ref _]) _ _ _); k_dflt (refine' kde_tupleOf (by k_asm) (by k_asm) (by exact News.isList (by k_asm) (by k_mem)) (by (rw [List.size_toArray]; assumption)) (by exact rfl) ?_; k_whole); intro D' h' F' N' l1; (try k_lt l1)))
  trivial
-- room for a contract at its place
-- a written text's lower case is named by a fact
-- behind a contract: the frame's and the ledger's facts at the new heap
-- behind a contract that made an object: its fact joins the ledger
theorem ws_shape0 {m m0 : Str → Option Value} {a b c d : Value} (hm : m = fun y => if y = Str.ofString "nt" then some a else if y = Str.ofString "n" then some b else if y = Str.ofString "b" then some c else if y = Str.ofString "count" then some d else m0 y) :
    m = fun y => if y = Str.ofString "count" then some d else if y = Str.ofString "b" then some c else if y = Str.ofString "n" then some b else if y = Str.ofString "nt" then some a else over [Str.ofString "ch"] m m y := by
  funext y
  have hm' := congrFun hm y
  by_cases h1 : y = Str.ofString "nt"
  · subst h1; exact hm'
  by_cases h2 : y = Str.ofString "n"
  · subst h2; exact hm'
  by_cases h3 : y = Str.ofString "b"
  · subst h3; exact hm'
  by_cases h4 : y = Str.ofString "count"
  · subst h4; exact hm'
  simp only [if_neg h1, if_neg h2, if_neg h3, if_neg h4]
  unfold over
  split <;> rfl
theorem ws_shape1 {m1 m f : Str → Option Value} {vb vn vc vl vb1 vn2 vt : Value} (hm : m1 = fun y => if y = Str.ofString "b" then some vb else if y = Str.ofString "n" then some vn else if y = Str.ofString "ch" then some vc else if y = Str.ofString "count" then some vl else if y = Str.ofString "b" then some vb1 else if y = Str.ofString "n" then some vn2 else if y = Str.ofString "nt" then some vt else over [Str.ofString "ch"] f m y) :
    m1 = fun y => if y = Str.ofString "count" then some vl else if y = Str.ofString "b" then some vb else if y = Str.ofString "n" then some vn else if y = Str.ofString "nt" then some vt else over [Str.ofString "ch"] (fun _ => some vc) m y := by
  subst hm
  funext y
  by_cases h0 : y = Str.ofString "count"
  · subst h0; rfl
  by_cases h1 : y = Str.ofString "b"
  · subst h1; rfl
  by_cases h2 : y = Str.ofString "n"
  · subst h2; rfl
  by_cases h3 : y = Str.ofString "nt"
  · subst h3; rfl
  by_cases h4 : y = Str.ofString "ch"
  · subst h4; rfl
  simp only [if_neg h0, if_neg h1, if_neg h2, if_neg h3, if_neg h4]
  have hc : [Str.ofString "ch"].contains y = false := by simpa using h4
  rw [over_off hc, over_off hc]
theorem ws_shape2 {m1 m f : Str → Option Value} {vb vl vt vn vc vl1 vb2 vn3 vt4 : Value} (hm : m1 = fun y => if y = Str.ofString "b" then some vb else if y = Str.ofString "count" then some vl else if y = Str.ofString "nt" then some vt else if y = Str.ofString "n" then some vn else if y = Str.ofString "ch" then some vc else if y = Str.ofString "count" then some vl1 else if y = Str.ofString "b" then some vb2 else if y = Str.ofString "n" then some vn3 else if y = Str.ofString "nt" then some vt4 else over [Str.ofString "ch"] f m y) :
    m1 = fun y => if y = Str.ofString "count" then some vl else if y = Str.ofString "b" then some vb else if y = Str.ofString "n" then some vn else if y = Str.ofString "nt" then some vt else over [Str.ofString "ch"] (fun _ => some vc) m y := by
  subst hm
  funext y
  by_cases h0 : y = Str.ofString "count"
  · subst h0; rfl
  by_cases h1 : y = Str.ofString "b"
  · subst h1; rfl
  by_cases h2 : y = Str.ofString "n"
  · subst h2; rfl
  by_cases h3 : y = Str.ofString "nt"
  · subst h3; rfl
  by_cases h4 : y = Str.ofString "ch"
  · subst h4; rfl
  simp only [if_neg h0, if_neg h1, if_neg h2, if_neg h3, if_neg h4]
  have hc : [Str.ofString "ch"].contains y = false := by simpa using h4
  rw [over_off hc, over_off hc]
theorem ws_shape3 {m1 m f : Str → Option Value} {vb vt vn vc vl vb1 vn2 vt3 : Value} (hm : m1 = fun y => if y = Str.ofString "b" then some vb else if y = Str.ofString "nt" then some vt else if y = Str.ofString "n" then some vn else if y = Str.ofString "ch" then some vc else if y = Str.ofString "count" then some vl else if y = Str.ofString "b" then some vb1 else if y = Str.ofString "n" then some vn2 else if y = Str.ofString "nt" then some vt3 else over [Str.ofString "ch"] f m y) :
    m1 = fun y => if y = Str.ofString "count" then some vl else if y = Str.ofString "b" then some vb else if y = Str.ofString "n" then some vn else if y = Str.ofString "nt" then some vt else over [Str.ofString "ch"] (fun _ => some vc) m y := by
  subst hm
  funext y
  by_cases h0 : y = Str.ofString "count"
  · subst h0; rfl
  by_cases h1 : y = Str.ofString "b"
  · subst h1; rfl
  by_cases h2 : y = Str.ofString "n"
  · subst h2; rfl
  by_cases h3 : y = Str.ofString "nt"
  · subst h3; rfl
  by_cases h4 : y = Str.ofString "ch"
  · subst h4; rfl
  simp only [if_neg h0, if_neg h1, if_neg h2, if_neg h3, if_neg h4]
  have hc : [Str.ofString "ch"].contains y = false := by simpa using h4
  rw [over_off hc, over_off hc]
theorem ws9 {cs : List Int} {b n nt : Nat} : wsStep ⟨cs, b, n, nt⟩ 9 = ⟨bumpF cs b, 0, n + 1, nt + 1⟩ := rfl
theorem bump_in {cs : List Int} {b : Nat} (h : b < cs.length) : bumpF cs b = cs.set b (cs.getD b 0 + 1) := by
  unfold bumpF
  rw [show b + 1 - cs.length = 0 from by omega]
  simp
theorem bump_out {cs : List Int} {b : Nat} (h : cs.length ≤ b) : bumpF cs b = (cs ++ (List.replicate ((b : Int) - cs.length + 1).toNat [(0 : Int)]).flatten).set b ((cs ++ (List.replicate ((b : Int) - cs.length + 1).toNat [(0 : Int)]).flatten).getD b 0 + 1) := by
  unfold bumpF
  rw [List.flatten_replicate_singleton, show ((b : Int) - cs.length + 1).toNat = b + 1 - cs.length from by omega]
theorem news_pick {h₀ h : Heap} {L : Addr} {a b c g e : Addr × Obj} {rest : List (Addr × Obj)} (N : News h₀ L h (a :: b :: c :: g :: e :: rest)) : News h₀ L h (g :: a :: rest) := fun p hp => by
  rcases List.mem_cons.mp hp with rfl | hp
  · exact N _ (.tail _ (.tail _ (.tail _ (.head _))))
  rcases List.mem_cons.mp hp with rfl | hp
  · exact N _ (.head _)
  · exact N _ (.tail _ (.tail _ (.tail _ (.tail _ (.tail _ hp)))))
theorem news_drop2 {h₀ h : Heap} {L : Addr} {a b : Addr × Obj} {rest : List (Addr × Obj)} (N : News h₀ L h (a :: b :: rest)) : News h₀ L h (a :: rest) := fun p hp => by
  rcases List.mem_cons.mp hp with rfl | hp
  · exact N _ (.head _)
  · exact N _ (.tail _ (.tail _ hp))

theorem ws_news {h₀ h : Heap} {L : Addr} {a1 a2 lc a3 a4 : Addr × Obj} {rest : List (Addr × Obj)} (N : News h₀ L h (a1 :: a2 :: lc :: a3 :: a4 :: rest)) : News h₀ L h [a3, a4, a1, a2] := fun p hp => N p (by
  simp only [List.mem_cons, List.not_mem_nil, or_false] at hp ⊢
  rcases hp with rfl | rfl | rfl | rfl <;> simp)
/-- the lead's body and scope -/
noncomputable def leadX (P : Params) : { x : List Stmt × Scope // ∃ name qual params dV kV doc pm an cdv ct oc od osl, (Mine.KK P).lookup 297 = some ⟨oc, od, .func (fnOf name qual params x.1 x.2 dV kV doc pm an cdv ct), osl⟩ } :=
  ⟨(_, _), _, _, _, _, _, _, _, _, _, _, _, _, _, rfl⟩
set_option maxHeartbeats 8000000 in
theorem wsn_ok (w : World) {p : Program} {loose : List Str} {mean : ExcName → Option Value} {mg mb : Str → Option Value} {outer : List Env} {fa : Addr} {cdv : Value} {A₀ : Around} {base h₀ : Heap} {L : Addr} {m : Str → Option Value} {s : Shared} {Q E : Value → Shared → Prop}
  (B : Below A₀ base outer h₀) (F : Fr h₀ L s.heap m) (X : (Mine.KK w.params).In h₀) (T : Top p loose mean mg mb h₀) 
  {tx : Str} {t : Tok} {cd : List Nat} (hcp : tx.cps.toList = cd) (hcm0 : ∀ c ∈ cd, c = 32 ∨ c = 9) (hcl0 : cd.length ≤ 72)
  (hret : ∀ x d D1 D2 k1 k2 k3 k4 k5 tn tt tb rv sv vs h' tk', Fr h₀ L h' m → News h₀ L h' (wsL 281 w.params x d D1 D2 k1 k2 k3 k4 k5 rv (.int (wsFold cd).n tn) (.int (wsFold cd).nt tt) (.int (wsFold cd).b tb) sv vs) → IntsAre vs (wsFold cd).cs → Q (.ref x) { s with heap := h', toks := tk' }) :
  wpAny (model PySem.Challenge.rw_tl0048_01.prog w) (Ar 325 210 (envOf (Str.ofString "_law_lead") (leadX w.params).1.2 L fa cdv) outer) (call (.ref 281) [.str tx t]) Q E s := by
  revert X; k_fill; intro X
  have N : News h₀ L s.heap [] := News.nil
  dsimp only [leadX]
  k_steps
  (with_reducible rename Fr _ _ _ _ => kF9); (with_reducible rename News _ _ _ _ => kN9)
  refine text_pack (fun m news i m₁ news₁ => ∃ lc nC vs tb tn tt f, (news.headD (0, lstO [] 0)).1 ≤ lc ∧ news₁ = (lc, lstO vs nC) :: news.tail ∧ IntsAre vs (wsFold ((cd).take i)).cs ∧ m₁ = fun y => if y = Str.ofString "count" then some (.ref lc) else if y = Str.ofString "b" then some (.int (wsFold ((cd).take i)).b tb) else if y = Str.ofString "n" then some (.int (wsFold ((cd).take i)).n tn) else if y = Str.ofString "nt" then some (.int (wsFold ((cd).take i)).nt tt) else over [Str.ofString "ch"] f m y)
    (all_of _ (by rw [hcp]; exact hcm0)) kF9 kN9 ⟨_, _, [], _, _, _, _, Nat.le_refl _, rfl, IntsAre.nil, ws_shape0 rfl⟩ ?_ ?_
  · rintro i c tv m₁ news₁ h₁ tk₁ I oI hi' ⟨lc, nC, vs, tb, tn, tt, f, hlc, rfl, hia, rfl⟩ F₁ N₁ hI
    have hIl := hI _ (.head _)
    simp only [List.headD_cons] at hlc
    simp only [] at hIl
    have hlc3 := Nat.lt_succ_of_le hlc
    have hIl3 := Nat.lt_or_gt_of_ne hIl
    dsimp only [List.tail] at N₁ hI
    have hc : (cd)[i]? = some c := by rw [← hcp]; simpa using hi'
    have hst := ws_take hc
    have hok := ws_ok ((cd).take i)
    have hcm := hcm0 _ (List.mem_of_getElem? hc)
    have hil : i < (cd).length := (List.getElem?_eq_some_iff.mp hc).1
    have hcl := hcl0
    rw [List.length_take, Nat.min_eq_left (Nat.le_of_lt hil)] at hok
    generalize wsFold ((cd).take (i + 1)) = st2 at *
    generalize wsFold ((cd).take i) = st at *
    obtain ⟨cs, b, n, nt⟩ := st
    obtain ⟨hk1, hk2, hk3, hk4⟩ := hok
    dsimp only at hk1 hk2 hk3 hk4 F₁ hia
    subst hst
    clear kF9 kN9
    rcases hcm with rfl | rfl
    · k_steps
      (rename Fr _ _ _ _ => kF7); (rename News _ _ _ _ => kN7)
      exact ⟨_, _, _, _, rfl, kF7, kN7, hI, lc, nC, vs, _, _, _, _, hlc, rfl, hia, ws_shape1 rfl⟩
    · k_steps
      · (rename Fr _ _ _ _ => kF7); (rename News _ _ _ _ => kN7); (with_reducible rename IntsAre _ _ => kI7)
        have hb : cs.length ≤ b := by omega
        rw [Int.toNat_natCast, ← bump_out hb] at kI7
        exact ⟨_, _, _, _, rfl, kF7, news_pick kN7, List.forall_mem_cons.mpr ⟨Nat.ne_of_gt (by omega), fun p hp => hI p (.tail _ hp)⟩, _, _, _, _, _, _, _, Nat.le_trans hlc (Nat.le_of_lt (by omega)), rfl, kI7, ws_shape2 rfl⟩
      · (rename Fr _ _ _ _ => kF7); (rename News _ _ _ _ => kN7); (with_reducible rename IntsAre _ _ => kI7)
        have hb : b < cs.length := by omega
        rw [Int.toNat_natCast, ← bump_in hb] at kI7
        exact ⟨_, _, _, _, rfl, kF7, kN7, fun p hp => (List.mem_cons.mp hp).elim (fun e => e ▸ hIl) (fun hp => hI p (.tail _ hp)), lc, _, _, _, _, _, _, hlc, rfl, kI7, ws_shape3 rfl⟩
  · rintro m₁ news₁ h₁ tk₁ ⟨lc, nC, vs, tb, tn, tt, f, hlc, rfl, hia, rfl⟩ F₁ N₁
    have hsz : (tx).cps.size = (cd).length := by rw [← hcp, Array.length_toList]
    have hst : wsFold (List.take (tx).cps.size (cd)) = wsFold (cd) := by rw [hsz, List.take_length]
    rw [hst] at F₁ hia
    have hok := ws_ok (cd)
    have hcl := hcl0
    simp only [List.headD_cons] at hlc
    have hlc3 := Nat.lt_succ_of_le hlc
    dsimp only [List.tail] at N₁
    replace N₁ := news_drop2 N₁
    generalize wsFold (cd) = st at *
    obtain ⟨cs, b, n, nt⟩ := st
    obtain ⟨hk1, hk2, hk3, hk4⟩ := hok
    dsimp only at hk1 hk2 hk3 hk4 F₁ hia hret
    have hvl : vs.length ≤ 16384 := by rw [hia.length]; omega
    clear kF9 kN9
    k_steps
    (rename Fr _ _ _ _ => kF7); (rename News _ _ _ _ => kN7)
    exact hret _ _ _ _ _ _ _ _ _ _ _ _ _ _ _ _ _ kF7 (ws_news kN7) hia
theorem linesLead : True := by
  w_top off
  k_with_none
  k_with "getMethod ref" => ((k_here; (with_reducible show wpAny _ _ (getMethod (Value.ref _) (Str.ofString "search") _) _ _ _); k_dflt (refine' search_meth (by k_asm) (by k_asm) (by k_is) ?_; k_whole)))
  k_with "call builtin:re.Pattern.search" => ((k_here; k_dflt (first
  | (refine' search_name (by k_asm) (by k_asm) (by k_is) (by k_is) (by decide +kernel) (by assumption) (by assumption) ?_; k_whole)
  | (refine' search_val (by k_asm) (by k_asm) (by k_is) (by k_is) (by decide +kernel) (by assumption) (by assumption) ?_; k_whole))))
  k_with "mine:le" => (exact Nat.le_of_ble_eq_true rfl)
  k_with "call builtin:str.lower" => ((k_here; (with_reducible show wpAny _ _ (call (Value.builtin "str.lower") [Value.str _ _]) _ _ _); k_dflt (refine' KXw.lower (by assumption) (by (exact low_fit (by assumption))) ?_; k_whole); intro t' k'))
  k_with "mine:moved" => (((rename Keep _ _ => kp9'); (with_reducible rename Fr _ _ _ _ => kF9); (with_reducible rename News _ _ _ _ => kN9); (replace kF9 := fr_keep kF9 kp9'); (replace kN9 := news_keep kN9 kp9'); (try dsimp only at kF9 kN9)))
  k_with "mine:movedN" => (((rename Keep _ _ => kp9'); (rename (Heap.get? _ _ = none) => hn9'); (rename (Heap.get? _ _ = some _) => hq9'); (with_reducible rename Fr _ _ _ _ => kF9); (with_reducible rename News _ _ _ _ => kN9); (replace kN9 := news_add kF9 (news_keep kN9 kp9') hn9' hq9'); (replace kF9 := fr_keep kF9 kp9'); (clear hn9' hq9'); (try dsimp only at kF9 kN9)))
  k_with "mine:one" => ((first | (k_unfold; (try dsimp only)) | (k_end; wrow_close) | walk1 | (dsimp only; walk1)))
  k_with "binaryOp Mult str int" => ((k_here; (rename (_ ∈ _) => hm9); (obtain ⟨hm7, hm8⟩ := SmallP.at (by assumption) hm9); clear hm9; walk_at "binaryOp Mult str int"))
  k_with "call builtin:str.join" => ((k_here; (with_reducible rename CarriedAll _ _ => hc9); k_dflt (refine' lead_join (by assumption) hc9 (by assumption) (by assumption) ?_; k_whole); intro t' k'))
  k_with "call ref" => ((k_here; (with_reducible show wpAny _ _ (call (Value.ref 281) [Value.str _ _]) _ _ _); k_dflt (refine' at_le (by exact rfl) (by exact rfl) (by walk_at "mine:le") (by walk_at "mine:le") (wsn_ok _ (by k_asm) (by k_asm) (by k_asm) (by k_asm) (by assumption) (by assumption) (by assumption) ?_); k_whole); intro x9 d9 D19 D29 k19 k29 k39 k49 k59 tn9 tt9 tb9 rv9 sv9 vs9 h9 tk9 kF9 kN9 hi9))
  trivial
-- room for a contract at its place
-- a written text's lower case is named by a fact
-- behind a contract: the frame's and the ledger's facts at the new heap
-- behind a contract that made an object: its fact joins the ledger
theorem lead_join {prog : Program} {w : World} {A : Around} {E : Value → Shared → Prop} {s : Shared} {t : Tok} {Q : Value → Shared → Prop} {D : Addr} {ys : List Value} {ps : List Int} (hl : s.heap.IsList D ys.toArray)
    (hc : CarriedAll ys (List.map (fun a => PyData.str (Txt.mul (Str.ofString " ") a ++ Str.ofString "\t")) (List.filter (fun a => true) ps))) (hp : SmallP ps) (hn : ps.length ≤ 6)
    (h : ∀ t' k, Q (.str (leadT ps) t') { s with toks := k }) : wpAny (model prog w) A (call (.builtin "str.join") [.str (Str.ofString "") t, .ref D]) Q E s := by
  refine join_list hl (ys := ps.map pieceF) (StrsAre.of_carried ?_) ?_ h
  · rw [List.map_map]
    rw [List.filter_eq_self.mpr (by simp)] at hc
    exact hc
  · have h1 := sumLen_le_of_bound pieceF 12 ps fun a ha => piece_len (hp.at ha).1 (hp.at ha).2
    rw [show (Str.ofString "").length = 0 from rfl]
    simp only [Nat.mul_zero, Nat.add_zero]
    omega

set_option maxHeartbeats 8000000 in
theorem lead_ok (w : World) {p : Program} {loose : List Str} {mean : ExcName → Option Value} {mg mb : Str → Option Value} {env : Env} {outer : List Env} {A₀ : Around} {base h₀ : Heap} {L : Addr} {m : Str → Option Value} {s : Shared} {Q E : Value → Shared → Prop}
  (B : Below A₀ base outer h₀) (F : Fr h₀ L s.heap m) (X : (Mine.KK w.params).In h₀) (T : Top p loose mean mg mb h₀) (hf : env.frame = some L) (hke : env.scope.kind = .function)
  {lp : Addr} {nP : Nat} {vs : List Value} {ps : List Int} (hlp : s.heap.get? lp = some (lstO vs nP)) (hi : IntsAre vs ps) (hlen : ps.length ≤ 6) (hp : SmallP ps)
  (hret : ∀ x d D1 D2 k1 k2 k3 k4 k5 tn tt tb rv sv vs h' tk', Keep s.heap h' → (∀ p ∈ wsL 281 w.params x d D1 D2 k1 k2 k3 k4 k5 rv (.int (wsFold (codesF ps)).n tn) (.int (wsFold (codesF ps)).nt tt) (.int (wsFold (codesF ps)).b tb) sv vs, h'.get? p.1 = some p.2 ∧ s.heap.get? p.1 = none) → IntsAre vs (wsFold (codesF ps)).cs → Q (.ref x) { s with heap := h', toks := tk' }) :
  wpAny (model PySem.Challenge.rw_tl0048_01.prog w) (Ar 320 200 env outer) (call (.ref 297) [.ref lp]) Q E s := by
  revert X; k_fill; intro X
  refine wpAny_call ?_
  k_dflt (refine' base_plain (binds := [(Str.ofString "ports", .ref lp)]) ?k1 ?k2 ?k3 ?k5 ?kA ?kF ?kK ?k6 ?k7 ?k8 ?k9 ?kB ?_ ?c2 ?c3 ?c4 ?c5; (case kA => exact rfl); (case kF => assumption); (case kK => assumption); (case k1 => k_asm); (case k2 => k_asm); (case k3 => k_asm); (case k5 => k_asm); (case k6 => k_is); (case k7 => k_is); (case k8 => exact Nat.le_of_ble_eq_true rfl); (case k9 => first | exact BindsTo.of_eq rfl | exact binds_K (by k_in) rfl (by k_is) rfl rfl rfl); (case c5 => decide); (case kB => exact locs rfl); (case c2 => exact rfl); (case c3 => exact rfl); (case c4 => exact rfl))
  intro L' h' F' B' X' T'
  have N' : News s.heap L' h' [] := News.nil
  clear B F X T
  (try dsimp only [List.reverse, List.reverseAux] at F')
  change wpAny _ _ _ _ _ _
  k_fold
  have hl : s.heap.IsList lp vs.toArray := ⟨_, hlp, rfl, _, rfl⟩
  have hcp := lead_cps hp
  have hcm : ∀ c ∈ codesF ps, c = 32 ∨ c = 9 := fun c hc => codes_mem hc
  have hcl : (codesF ps).length ≤ 72 := by have := codes_len hp; omega
  k_steps
  (rename Fr _ _ _ _ => kF5); (rename News _ _ _ _ => kN5); (rename IntsAre _ _ => hi5)
  exact hret _ _ _ _ _ _ _ _ _ _ _ _ _ _ _ _ _ kF5.keep (fun p hp => ⟨(kN5 p hp).1, (kN5 p hp).2.2⟩) hi5
theorem linesLeadR : True := by
  w_top off
  k_with_none
  k_with "getMethod ref" => ((k_here; (with_reducible show wpAny _ _ (getMethod (Value.ref _) (Str.ofString "search") _) _ _ _); k_dflt (refine' search_meth (by k_asm) (by k_asm) (by k_is) ?_; k_whole)))
  k_with "call builtin:re.Pattern.search" => ((k_here; k_dflt (first
  | (refine' search_name (by k_asm) (by k_asm) (by k_is) (by k_is) (by decide +kernel) (by assumption) (by assumption) ?_; k_whole)
  | (refine' search_val (by k_asm) (by k_asm) (by k_is) (by k_is) (by decide +kernel) (by assumption) (by assumption) ?_; k_whole))))
  k_with "mine:le" => (exact Nat.le_of_ble_eq_true rfl)
  k_with "call builtin:str.lower" => ((k_here; (with_reducible show wpAny _ _ (call (Value.builtin "str.lower") [Value.str _ _]) _ _ _); k_dflt (refine' KXw.lower (by assumption) (by (exact low_fit (by assumption))) ?_; k_whole); intro t' k'))
  k_with "mine:moved" => (((rename Keep _ _ => kp9'); (with_reducible rename Fr _ _ _ _ => kF9); (with_reducible rename News _ _ _ _ => kN9); (replace kF9 := fr_keep kF9 kp9'); (replace kN9 := news_keep kN9 kp9'); (try dsimp only at kF9 kN9)))
  k_with "mine:movedN" => (((rename Keep _ _ => kp9'); (rename (Heap.get? _ _ = none) => hn9'); (rename (Heap.get? _ _ = some _) => hq9'); (with_reducible rename Fr _ _ _ _ => kF9); (with_reducible rename News _ _ _ _ => kN9); (replace kN9 := news_add kF9 (news_keep kN9 kp9') hn9' hq9'); (replace kF9 := fr_keep kF9 kp9'); (clear hn9' hq9'); (try dsimp only at kF9 kN9)))
  k_with "mine:one" => ((first | (k_unfold; (try dsimp only)) | (k_end; wrow_close) | walk1 | (dsimp only; walk1)))
  k_with "call ref" => ((k_here; (with_reducible show wpAny _ _ (call (Value.ref 281) [Value.str _ _]) _ _ _); k_dflt (refine' at_le (by exact rfl) (by exact rfl) (by walk_at "mine:le") (by walk_at "mine:le") (wsn_ok _ (by k_asm) (by k_asm) (by k_asm) (by k_asm) (by assumption) (by assumption) (by assumption) ?_); k_whole); intro x9 d9 D19 D29 k19 k29 k39 k49 k59 tn9 tt9 tb9 rv9 sv9 vs9 h9 tk9 kF9 kN9 hi9))
  trivial
-- room for a contract at its place
-- a written text's lower case is named by a fact
-- behind a contract: the frame's and the ledger's facts at the new heap
-- behind a contract that made an object: its fact joins the ledger

set_option maxHeartbeats 8000000 in
theorem leadr_ok (w : World) {p : Program} {loose : List Str} {mean : ExcName → Option Value} {mg mb : Str → Option Value} {env : Env} {outer : List Env} {A₀ : Around} {base h₀ : Heap} {L : Addr} {m : Str → Option Value} {s : Shared} {Q E : Value → Shared → Prop}
  (B : Below A₀ base outer h₀) (F : Fr h₀ L s.heap m) (X : (Mine.KK w.params).In h₀) (T : Top p loose mean mg mb h₀) (hf : env.frame = some L) (hke : env.scope.kind = .function)
  {lp : Addr} {N : Int} {t0 u0 v0 : Tok} (hlp : IsRange s.heap lp 0 N 1 t0 u0 v0) (hN : N = 4 ∨ N = 5)
  (hret : ∀ x d D1 D2 k1 k2 k3 k4 k5 tn tt tb rv sv vs h' tk', Keep s.heap h' → (∀ p ∈ wsL 281 w.params x d D1 D2 k1 k2 k3 k4 k5 rv (.int (wsFold (codesF (upTo N))).n tn) (.int (wsFold (codesF (upTo N))).nt tt) (.int (wsFold (codesF (upTo N))).b tb) sv vs, h'.get? p.1 = some p.2 ∧ s.heap.get? p.1 = none) → IntsAre vs (wsFold (codesF (upTo N))).cs → Q (.ref x) { s with heap := h', toks := tk' }) :
  wpAny (model PySem.Challenge.rw_tl0048_01.prog w) (Ar 320 200 env outer) (call (.ref 297) [.ref lp]) Q E s := by
  revert X; k_fill; intro X
  refine wpAny_call ?_
  k_dflt (refine' base_plain (binds := [(Str.ofString "ports", .ref lp)]) ?k1 ?k2 ?k3 ?k5 ?kA ?kF ?kK ?k6 ?k7 ?k8 ?k9 ?kB ?_ ?c2 ?c3 ?c4 ?c5; (case kA => exact rfl); (case kF => assumption); (case kK => assumption); (case k1 => k_asm); (case k2 => k_asm); (case k3 => k_asm); (case k5 => k_asm); (case k6 => k_is); (case k7 => k_is); (case k8 => exact Nat.le_of_ble_eq_true rfl); (case k9 => first | exact BindsTo.of_eq rfl | exact binds_K (by k_in) rfl (by k_is) rfl rfl rfl); (case c5 => decide); (case kB => exact locs rfl); (case c2 => exact rfl); (case c3 => exact rfl); (case c4 => exact rfl))
  intro L' h' F' B' X' T'
  have N' : News s.heap L' h' [] := News.nil
  clear B F X T
  (try dsimp only [List.reverse, List.reverseAux] at F')
  change wpAny _ _ _ _ _ _
  k_fold
  have hr : IsRange h' lp 0 N 1 t0 u0 v0 := F'.keep _ _ hlp
  rcases hN with rfl | rfl
  · have hcp : (Str.ofString "\t \t  \t   \t").cps.toList = codesF (upTo 4) := by decide +kernel
    have hcm : ∀ c ∈ codesF (upTo 4), c = 32 ∨ c = 9 := fun c hc => codes_mem hc
    have hcl : (codesF (upTo 4)).length ≤ 72 := by decide +kernel
    k_steps
    (rename Fr _ _ _ _ => kF5); (rename News _ _ _ _ => kN5); (rename IntsAre _ _ => hi5)
    exact hret _ _ _ _ _ _ _ _ _ _ _ _ _ _ _ _ _ kF5.keep (fun p hp => ⟨(kN5 p hp).1, (kN5 p hp).2.2⟩) hi5
  · have hcp : (Str.ofString "\t \t  \t   \t    \t").cps.toList = codesF (upTo 5) := by decide +kernel
    have hcm : ∀ c ∈ codesF (upTo 5), c = 32 ∨ c = 9 := fun c hc => codes_mem hc
    have hcl : (codesF (upTo 5)).length ≤ 72 := by decide +kernel
    k_steps
    (rename Fr _ _ _ _ => kF5); (rename News _ _ _ _ => kN5); (rename IntsAre _ _ => hi5)
    exact hret _ _ _ _ _ _ _ _ _ _ _ _ _ _ _ _ _ kF5.keep (fun p hp => ⟨(kN5 p hp).1, (kN5 p hp).2.2⟩) hi5
theorem linesGet : True := by
  w_top off
  k_with_none
  k_with "getMethod ref" => ((k_here; (with_reducible show wpAny _ _ (getMethod (Value.ref _) (Str.ofString "search") _) _ _ _); k_dflt (refine' search_meth (by k_asm) (by k_asm) (by k_is) ?_; k_whole)))
  k_with "call builtin:re.Pattern.search" => ((k_here; k_dflt (first
  | (refine' search_name (by k_asm) (by k_asm) (by k_is) (by k_is) (by decide +kernel) (by assumption) (by assumption) ?_; k_whole)
  | (refine' search_val (by k_asm) (by k_asm) (by k_is) (by k_is) (by decide +kernel) (by assumption) (by assumption) ?_; k_whole))))
  k_with "mine:le" => (exact Nat.le_of_ble_eq_true rfl)
  k_with "call builtin:str.lower" => ((k_here; (with_reducible show wpAny _ _ (call (Value.builtin "str.lower") [Value.str _ _]) _ _ _); k_dflt (refine' KXw.lower (by assumption) (by (exact low_fit (by assumption))) ?_; k_whole); intro t' k'))
  k_with "mine:moved" => (((rename Keep _ _ => kp9'); (with_reducible rename Fr _ _ _ _ => kF9); (with_reducible rename News _ _ _ _ => kN9); (replace kF9 := fr_keep kF9 kp9'); (replace kN9 := news_keep kN9 kp9'); (try dsimp only at kF9 kN9)))
  k_with "mine:movedN" => (((rename Keep _ _ => kp9'); (rename (Heap.get? _ _ = none) => hn9'); (rename (Heap.get? _ _ = some _) => hq9'); (with_reducible rename Fr _ _ _ _ => kF9); (with_reducible rename News _ _ _ _ => kN9); (replace kN9 := news_add kF9 (news_keep kN9 kp9') hn9' hq9'); (replace kF9 := fr_keep kF9 kp9'); (clear hn9' hq9'); (try dsimp only at kF9 kN9)))
  k_with "call ref" => ((k_here; (with_reducible show wpAny _ _ (call (Value.ref 70) _ _) _ _ _); k_dflt (refine' at_le (by exact rfl) (by exact rfl) (by walk_at "mine:le") (by walk_at "mine:le") (conv_ok _ (by k_asm) (by k_asm) (by k_asm) (by k_asm) (by exact rfl) (by exact rfl) (by assumption) (by first | assumption | omega) ?_); k_whole); intro h9 tk9 kp9; walk_at "mine:moved"))
  trivial
-- room for a contract at its place
-- a written text's lower case is named by a fact
-- behind a contract: the frame's and the ledger's facts at the new heap
-- behind a contract that made an object: its fact joins the ledger


set_option maxHeartbeats 2000000 in
theorem get_ok (w : World) {p : Program} {loose : List Str} {mean : ExcName → Option Value} {mg mb : Str → Option Value} {env : Env} {outer : List Env} {A₀ : Around} {base h₀ : Heap} {L : Addr} {m : Str → Option Value} {s : Shared} {Q E : Value → Shared → Prop}
  (B : Below A₀ base outer h₀) (F : Fr h₀ L s.heap m) (X : (Mine.KK w.params).In h₀) (T : Top p loose mean mg mb h₀) (hf : env.frame = some L) (hke : env.scope.kind = .function)
  {x d l : Addr} {tk0 : Tok} {nL : Nat} {items : List Value} {es : List (Str × Str)} {nm q : Str} {t : Tok}
  (hx : s.heap.get? x = some (instObj 171 d)) (hd : s.heap.get? d = some (dictOf [{ hash := PyData.keyHash w.params (Str.ofString "_headers"), key := .str (Str.ofString "_headers") tk0, val := .ref l }] 1))
  (hlst : s.heap.get? l = some (lstO items nL)) (ht : Tups s.heap items es) (hlow : Txt.lower nm = q) (hq : Fine q) (hnl : nm.length ≤ 1000) (hql : q.length ≤ 1048576) (hes : ∀ e ∈ es, e.1.length ≤ 1000)
  (hret : ∀ r h' tk', GetRes es q r → Keep s.heap h' → Q r { s with heap := h', toks := tk' }) :
  wpAny (model PySem.Challenge.rw_tl0048_01.prog w) (Ar 350 500 env outer) (call (.ref 118) [.ref x, .str nm t]) Q E s := by
  revert X; k_fill; intro X
  refine wpAny_call ?_
  k_dflt (refine' base_plain (binds := [(Str.ofString "self", .ref x), (Str.ofString "name", .str nm t), (Str.ofString "default", .none)]) ?k1 ?k2 ?k3 ?k5 ?kA ?kF ?kK ?k6 ?k7 ?k8 ?k9 ?kB ?_ ?c2 ?c3 ?c4 ?c5; (case kA => exact rfl); (case kF => assumption); (case kK => assumption); (case k1 => k_asm); (case k2 => k_asm); (case k3 => k_asm); (case k5 => k_asm); (case k6 => k_is); (case k7 => k_is); (case k8 => exact Nat.le_of_ble_eq_true rfl); (case k9 => first | exact BindsTo.of_eq rfl | exact binds_K (by k_in) rfl (by k_is) rfl rfl rfl); (case c5 => decide); (case kB => exact locs rfl); (case c2 => exact rfl); (case c3 => exact rfl); (case c4 => exact rfl))
  intro L' h' F' B' X' T'
  have N' : News s.heap L' h' [] := News.nil
  clear B F X T
  (try dsimp only [List.reverse, List.reverseAux] at F')
  change wpAny _ _ _ _ _ _
  k_fold
  k_steps
  refine For_list s.heap L' rfl ?_
  k_steps
  refine list_pack (fun m nw i m₁ news₁ => news₁ = [] ∧ But2 (Str.ofString "k") (Str.ofString "v") m m₁ ∧ ∀ j e', j < i → es[j]? = some e' → Txt.lower e'.1 ≠ q) (by k_asm) (by k_asm) ⟨_, Fr.keep (by k_asm) _ _ hlst, rfl, _, rfl⟩ (go_tuple (by simpa using Tups.refs ht)) ⟨rfl, But2.refl, fun j e' h => absurd h (Nat.not_lt_zero _)⟩ ?_ ?_ ?_
  · intro i m₁ news₁ h₁ hJ F₁ N₁
    exact ⟨_, F₁.keep _ _ hlst, rfl, _, rfl⟩
  · rintro i v m₁ news₁ h₁ tk₁ I oI hi ⟨rfl, hB2, hno⟩ F₁ N₁ hI
    obtain ⟨e, r, ta, tb, he, rfl, hr⟩ := Tups.at ht (by simpa using hi)
    refine pair_assign F₁ N₁ ⟨_, F₁.keep _ _ hr, rfl, _, rfl⟩ rfl rfl rfl rfl fun h₂ tk₂ F₂ N₂ => ?_
    rw [hB2.put] at F₂
    clear F₁ N₁
    have hel := hes e (List.mem_of_getElem? he)
    generalize hlo : Txt.lower e.1 = elo at *
    k_steps
    · exact hret _ _ _ (getRes_hit hno he (by simp_all)) (Fr.keep (by k_asm))
    · exact ⟨_, _, _, [], rfl, by k_asm, by k_asm, (fun _ h => nomatch h), rfl, ⟨_, _, rfl⟩, fun j e' hj hje => by
        rcases Nat.lt_succ_iff_lt_or_eq.mp hj with hj | rfl
        · exact hno j e' hj hje
        · rw [he] at hje; cases hje; rw [hlo]; exact beq_eq_false_iff_ne.mp (by assumption)⟩
  · rintro m₁ news₁ h₁ tk₁ ⟨rfl, ⟨u1, u2, rfl⟩, hno⟩ F₁ N₁
    dsimp only
    k_steps
    refine hret _ _ _ (getRes_none fun j e' hj hje => hno j e' ?_ hje) (Fr.keep (by k_asm))
    rw [List.size_toArray, Tups.length ht]; exact hj
theorem linesSetD : True := by
  w_top off
  k_with_none
  k_with "getMethod ref" => ((k_here; (with_reducible show wpAny _ _ (getMethod (Value.ref _) (Str.ofString "search") _) _ _ _); k_dflt (refine' search_meth (by k_asm) (by k_asm) (by k_is) ?_; k_whole)))
  k_with "call builtin:re.Pattern.search" => ((k_here; k_dflt (first
  | (refine' search_name (by k_asm) (by k_asm) (by k_is) (by k_is) (by decide +kernel) (by assumption) (by assumption) ?_; k_whole)
  | (refine' search_val (by k_asm) (by k_asm) (by k_is) (by k_is) (by decide +kernel) (by assumption) (by assumption) ?_; k_whole))))
  k_with "mine:le" => (exact Nat.le_of_ble_eq_true rfl)
  k_with "call builtin:str.lower" => ((k_here; (with_reducible show wpAny _ _ (call (Value.builtin "str.lower") [Value.str _ _]) _ _ _); k_dflt (refine' KXw.lower (by assumption) (by (exact low_fit (by assumption))) ?_; k_whole); intro t' k'))
  k_with "mine:moved" => (((rename Keep _ _ => kp9'); (with_reducible rename Fr _ _ _ _ => kF9); (with_reducible rename News _ _ _ _ => kN9); (replace kF9 := fr_keep kF9 kp9'); (replace kN9 := news_keep kN9 kp9'); (try dsimp only at kF9 kN9)))
  k_with "mine:movedN" => (((rename Keep _ _ => kp9'); (rename (Heap.get? _ _ = none) => hn9'); (rename (Heap.get? _ _ = some _) => hq9'); (with_reducible rename Fr _ _ _ _ => kF9); (with_reducible rename News _ _ _ _ => kN9); (replace kN9 := news_add kF9 (news_keep kN9 kp9') hn9' hq9'); (replace kF9 := fr_keep kF9 kp9'); (clear hn9' hq9'); (try dsimp only at kF9 kN9)))
  k_with "call ref" => ((k_here; (with_reducible show wpAny _ _ (call (Value.ref 70) _ _) _ _ _); k_dflt (refine' at_le (by exact rfl) (by exact rfl) (by walk_at "mine:le") (by walk_at "mine:le") (conv_ok _ (by k_asm) (by k_asm) (by k_asm) (by k_asm) (by exact rfl) (by exact rfl) (by assumption) (by first | assumption | omega) ?_); k_whole); intro h9 tk9 kp9; walk_at "mine:moved"))
  k_with "call ref" => ((k_here; (with_reducible show wpAny _ _ (call (Value.ref 118) _ _) _ _ _); k_dflt (refine' at_le (by exact rfl) (by exact rfl) (by walk_at "mine:le") (by walk_at "mine:le") (get_ok _ (by k_asm) (by k_asm) (by k_asm) (by k_asm) (by exact rfl) (by exact rfl) (by exact Fr.keep (by k_asm) _ _ (by assumption)) (by exact Fr.keep (by k_asm) _ _ (by assumption)) (by first | exact News.get (by k_asm) (by k_mem) | exact Fr.keep (by k_asm) _ _ (by assumption)) (by exact Tups.keep (Fr.keep (by k_asm)) (by assumption)) (by assumption) (by assumption) (by assumption) (by assumption) (by assumption) ?_); k_whole); intro r9 h9 tk9 hg9 kp9; walk_at "mine:moved"; rcases getRes_cases hg9 with ⟨e9, t9, he9, hr9⟩ | ⟨he9, hr9⟩ <;> subst hr9))
  trivial
-- room for a contract at its place
-- a written text's lower case is named by a fact
-- behind a contract: the frame's and the ledger's facts at the new heap
-- behind a contract that made an object: its fact joins the ledger


set_option maxHeartbeats 4000000 in
theorem setdefault_ok (w : World) {p : Program} {loose : List Str} {mean : ExcName → Option Value} {mg mb : Str → Option Value} {env : Env} {outer : List Env} {A₀ : Around} {base h₀ : Heap} {L : Addr} {m : Str → Option Value} {s : Shared} {Q E : Value → Shared → Prop}
  (B : Below A₀ base outer h₀) (F : Fr h₀ L s.heap m) (X : (Mine.KK w.params).In h₀) (T : Top p loose mean mg mb h₀) (hf : env.frame = some L) (hke : env.scope.kind = .function)
  {x d l : Addr} {tk0 : Tok} {nL : Nat} {items : List Value} {es : List (Str × Str)} {nm q v : Str} {t tv : Tok} (N : News h₀ L s.heap [(l, lstO items nL)])
  (hx : s.heap.get? x = some (instObj 171 d)) (hd : s.heap.get? d = some (dictOf [{ hash := PyData.keyHash w.params (Str.ofString "_headers"), key := .str (Str.ofString "_headers") tk0, val := .ref l }] 1))
  (ht : Tups s.heap items es) (hlow : Txt.lower nm = q) (hq : Fine q) (hnf : Fine nm) (hvf : Fine v) (hvl : v.length ≤ 1000) (hnl : nm.length ≤ 1000) (hql : q.length ≤ 1048576) (hes : ∀ e ∈ es, e.1.length ≤ 1000) (hil : items.length ≤ 1000)
  (hit : ∀ e t h' tk', es.find? (fun e => Txt.lower e.1 == q) = some e → Keep s.heap h' → Q (.str e.2 t) { s with heap := h', toks := tk' })
  (miss : ∀ a n' h' tk' t2 t3, es.find? (fun e => Txt.lower e.1 == q) = none → KeepBut l s.heap h' → s.heap.get? a = none → h'.get? a = some (tupO [.str nm t2, .str v t3]) → h'.get? l = some (lstO (items ++ [.ref a]) n') → Q (.str v tv) { s with heap := h', toks := tk' }) :
  wpAny (model PySem.Challenge.rw_tl0048_01.prog w) (Ar 340 400 env outer) (call (.ref 161) [.ref x, .str nm t, .str v tv]) Q E s := by
  revert X; k_fill; intro X
  have hlS := N.get (List.Mem.head _)
  refine wpAny_call ?_
  k_dflt (refine' base_news (news := [(l, lstO items nL)]) (binds := [(Str.ofString "self", .ref x), (Str.ofString "name", .str nm t), (Str.ofString "value", .str v tv)]) ?k1 ?k2 ?k3 ?kN ?k5 ?kA ?kF ?kK ?k6 ?k7 ?k8 ?k9 ?kB ?_ ?c2 ?c3 ?c4 ?c5; (case kA => exact rfl); (case kF => assumption); (case kK => assumption); (case k1 => k_asm); (case k2 => k_asm); (case k3 => k_asm); (case kN => assumption); (case k5 => k_asm); (case k6 => k_is); (case k7 => k_is); (case k8 => exact Nat.le_of_ble_eq_true rfl); (case k9 => first | exact BindsTo.of_eq rfl | exact binds_K (by k_in) rfl (by k_is) rfl rfl rfl); (case c5 => decide); (case kB => exact locs rfl); (case c2 => exact rfl); (case c3 => exact rfl); (case c4 => exact rfl))
  intro g L' h' hg F' N' B' X' T'
  clear B F X T N
  (try dsimp only [List.reverse, List.reverseAux] at F')
  change wpAny _ _ _ _ _ _
  k_fold
  have hg' : ∀ b o, s.heap.get? b = some o → b ≠ l → g.get? b = some o := fun b o e h => hg b o e (by simpa using h)
  have hgx := hg' _ _ hx (addr_ne hx hlS rfl)
  have hgd := hg' _ _ hd (addr_ne hd hlS rfl)
  have hgt := Tups.but hlS rfl hg' ht
  k_steps
  · (rename Fr _ _ _ _ => kF); (rename News _ _ _ _ => kN)
    refine hit _ _ _ _ (by assumption) fun b o e => ?_
    by_cases hb : b = l
    · subst hb
      rw [hlS] at e
      rw [← e]
      exact kN.get (.head _)
    · exact kF.keep b o (hg' b o e hb)
  · (rename Fr _ _ _ _ => kF); (rename News _ _ _ _ => kN)
    refine miss _ (nL + 1) _ _ _ _ (by assumption) (fun b o hb e => kF.keep b o (hg' b o e hb)) ?_ (kN.get (.head _)) ?_
    · have hfr := kN.fresh (.head _)
      cases e : s.heap.get? _ with
      | none => rfl
      | some o =>
        have := hg' _ o e (Nat.ne_of_gt (by assumption))
        rw [this] at hfr
        cases hfr
    · have := kN.get (.tail _ (.head _))
      simpa using this
theorem linesEqual : True := by
  w_top off
  k_with_none
  k_with "getMethod ref" => ((k_here; (with_reducible show wpAny _ _ (getMethod (Value.ref _) (Str.ofString "search") _) _ _ _); k_dflt (refine' search_meth (by k_asm) (by k_asm) (by k_is) ?_; k_whole)))
  k_with "call builtin:re.Pattern.search" => ((k_here; k_dflt (first
  | (refine' search_name (by k_asm) (by k_asm) (by k_is) (by k_is) (by decide +kernel) (by assumption) (by assumption) ?_; k_whole)
  | (refine' search_val (by k_asm) (by k_asm) (by k_is) (by k_is) (by decide +kernel) (by assumption) (by assumption) ?_; k_whole))))
  k_with "mine:le" => (exact Nat.le_of_ble_eq_true rfl)
  k_with "call builtin:str.lower" => ((k_here; (with_reducible show wpAny _ _ (call (Value.builtin "str.lower") [Value.str _ _]) _ _ _); k_dflt (refine' KXw.lower (by assumption) (by (exact low_fit (by assumption))) ?_; k_whole); intro t' k'))
  k_with "mine:moved" => (((rename Keep _ _ => kp9'); (with_reducible rename Fr _ _ _ _ => kF9); (with_reducible rename News _ _ _ _ => kN9); (replace kF9 := fr_keep kF9 kp9'); (replace kN9 := news_keep kN9 kp9'); (try dsimp only at kF9 kN9)))
  k_with "mine:movedN" => (((rename Keep _ _ => kp9'); (rename (Heap.get? _ _ = none) => hn9'); (rename (Heap.get? _ _ = some _) => hq9'); (with_reducible rename Fr _ _ _ _ => kF9); (with_reducible rename News _ _ _ _ => kN9); (replace kN9 := news_add kF9 (news_keep kN9 kp9') hn9' hq9'); (replace kF9 := fr_keep kF9 kp9'); (clear hn9' hq9'); (try dsimp only at kF9 kN9)))
  k_with "compareOp Eq ref ref" => ((k_here; k_dflt (refine' norm_eq (by exact Fr.keep (by k_asm) _ _ (by assumption)) (by exact Fr.keep (by k_asm) _ _ (by assumption)) (by assumption) (by exact Fr.keep (by k_asm) _ _ (by assumption)) (by exact Fr.keep (by k_asm) _ _ (by assumption)) (by assumption) (by ke_room) ?_; k_whole)))
  trivial
-- room for a contract at its place
-- a written text's lower case is named by a fact
-- behind a contract: the frame's and the ledger's facts at the new heap
-- behind a contract that made an object: its fact joins the ledger
set_option maxHeartbeats 4000000 in
theorem equal_ok (w : World) {p : Program} {loose : List Str} {mean : ExcName → Option Value} {mg mb : Str → Option Value} {env : Env} {outer : List Env} {A₀ : Around} {base h₀ : Heap} {L : Addr} {m : Str → Option Value} {s : Shared} {Q E : Value → Shared → Prop}
  (B : Below A₀ base outer h₀) (F : Fr h₀ L s.heap m) (X : (Mine.KK w.params).In h₀) (T : Top p loose mean mg mb h₀) (hf : env.frame = some L) (hke : env.scope.kind = .function)
  {x y : Addr} {st st' : WsSt} (hx : WsAt 281 w.params s.heap x st) (hy : WsAt 281 w.params s.heap y st')
  (hret : ∀ h' tk', Keep s.heap h' → Q (.bool (decide (st.cs = st'.cs ∧ st.b = st'.b))) { s with heap := h', toks := tk' }) :
  wpAny (model PySem.Challenge.rw_tl0048_01.prog w) (Ar 340 400 env outer) (call (.ref 257) [.ref x, .ref y]) Q E s := by
  revert X; k_fill; intro X
  refine wpAny_call ?_
  k_dflt (refine' base_plain (binds := [(Str.ofString "self", .ref x), (Str.ofString "other", .ref y)]) ?k1 ?k2 ?k3 ?k5 ?kA ?kF ?kK ?k6 ?k7 ?k8 ?k9 ?kB ?_ ?c2 ?c3 ?c4 ?c5; (case kA => exact rfl); (case kF => assumption); (case kK => assumption); (case k1 => k_asm); (case k2 => k_asm); (case k3 => k_asm); (case k5 => k_asm); (case k6 => k_is); (case k7 => k_is); (case k8 => exact Nat.le_of_ble_eq_true rfl); (case k9 => first | exact BindsTo.of_eq rfl | exact binds_K (by k_in) rfl (by k_is) rfl rfl rfl); (case c5 => decide); (case kB => exact locs rfl); (case c2 => exact rfl); (case c3 => exact rfl); (case c4 => exact rfl))
  intro L' h' F' B' X' T'
  have N' : News s.heap L' h' [] := News.nil
  clear B F X T
  (try dsimp only [List.reverse, List.reverseAux] at F')
  change wpAny _ _ _ _ _ _
  k_fold
  obtain ⟨d, D1, D2, k1, k2, k3, k4, k5, tn, tt, tb, rv, sv, vs, H, hi⟩ := hx
  obtain ⟨d', D1', D2', k1', k2', k3', k4', k5', tn', tt', tb', rv', sv', vs', H', hi'⟩ := hy
  obtain ⟨a1, a2, a3, a4⟩ := ws_facts H
  obtain ⟨b1, b2, b3, b4⟩ := ws_facts H'
  k_steps
  (rename Fr _ _ _ _ => kF7)
  exact hret _ _ kF7.keep
theorem linesLongest : True := by
  w_top off
  k_with_none
  k_with "getMethod ref" => ((k_here; (with_reducible show wpAny _ _ (getMethod (Value.ref _) (Str.ofString "search") _) _ _ _); k_dflt (refine' search_meth (by k_asm) (by k_asm) (by k_is) ?_; k_whole)))
  k_with "call builtin:re.Pattern.search" => ((k_here; k_dflt (first
  | (refine' search_name (by k_asm) (by k_asm) (by k_is) (by k_is) (by decide +kernel) (by assumption) (by assumption) ?_; k_whole)
  | (refine' search_val (by k_asm) (by k_asm) (by k_is) (by k_is) (by decide +kernel) (by assumption) (by assumption) ?_; k_whole))))
  k_with "mine:le" => (exact Nat.le_of_ble_eq_true rfl)
  k_with "call builtin:str.lower" => ((k_here; (with_reducible show wpAny _ _ (call (Value.builtin "str.lower") [Value.str _ _]) _ _ _); k_dflt (refine' KXw.lower (by assumption) (by (exact low_fit (by assumption))) ?_; k_whole); intro t' k'))
  k_with "mine:moved" => (((rename Keep _ _ => kp9'); (with_reducible rename Fr _ _ _ _ => kF9); (with_reducible rename News _ _ _ _ => kN9); (replace kF9 := fr_keep kF9 kp9'); (replace kN9 := news_keep kN9 kp9'); (try dsimp only at kF9 kN9)))
  k_with "mine:movedN" => (((rename Keep _ _ => kp9'); (rename (Heap.get? _ _ = none) => hn9'); (rename (Heap.get? _ _ = some _) => hq9'); (with_reducible rename Fr _ _ _ _ => kF9); (with_reducible rename News _ _ _ _ => kN9); (replace kN9 := news_add kF9 (news_keep kN9 kp9') hn9' hq9'); (replace kF9 := fr_keep kF9 kp9'); (clear hn9' hq9'); (try dsimp only at kF9 kN9)))
  k_with "assign Tuple" => ((k_here; (with_reducible show wpAny _ _ (assign (Expr.Tuple _ _ _) _ (Value.ref _)) _ _ _); k_dflt (refine' pair_assign (by k_asm) (by k_asm) (by exact ⟨_, Fr.keep (by k_asm) _ _ (by assumption), rfl, _, rfl⟩) (by exact rfl) (by exact rfl) (by exact rfl) (by exact rfl) ?_; k_whole); intro h9 tk9 F9 N9))
  k_with "call builtin:len" => ((k_here; (with_reducible show wpAny _ _ (call (Value.builtin "len") [Value.ref _]) _ _ _); k_dflt (refine' tup_len (by k_asm) (by assumption) (by assumption) (by first | assumption | omega) ?_; k_whole)))
  k_with "subscriptTail" => ((k_here; (with_reducible show wpAny _ _ (subscriptTail _ _ (Value.ref _) (Value.int _ _)) _ _ _); k_dflt (refine' tup_item (by k_asm) (by assumption) (by assumption) (by omega) (by omega) (by omega) ?_ (by with_unfolding_all rfl); k_whole); intro t9))
  trivial
-- room for a contract at its place
-- a written text's lower case is named by a fact
-- behind a contract: the frame's and the ledger's facts at the new heap
-- behind a contract that made an object: its fact joins the ledger

set_option maxHeartbeats 4000000 in
theorem longest_ok (w : World) {p : Program} {loose : List Str} {mean : ExcName → Option Value} {mg mb : Str → Option Value} {env : Env} {outer : List Env} {A₀ : Around} {base h₀ : Heap} {L : Addr} {m : Str → Option Value} {s : Shared} {Q E : Value → Shared → Prop}
  (B : Below A₀ base outer h₀) (F : Fr h₀ L s.heap m) (X : (Mine.KK w.params).In h₀) (T : Top p loose mean mg mb h₀) (hf : env.frame = some L) (hke : env.scope.kind = .function)
  {x : Addr} {st : WsSt} (hx : WsAt 281 w.params s.heap x st) (hs1 : st.cs.length ≤ 20) (hs2 : st.b ≤ 100)
  (hret : ∀ h' tk' t, Keep s.heap h' → Q (.int (max ((st.cs.length : Int) - 1) st.b) t) { s with heap := h', toks := tk' }) :
  wpAny (model PySem.Challenge.rw_tl0048_01.prog w) (Ar 340 400 env outer) (call (.ref 243) [.ref x]) Q E s := by
  revert X; k_fill; intro X
  refine wpAny_call ?_
  k_dflt (refine' base_plain (binds := [(Str.ofString "self", .ref x)]) ?k1 ?k2 ?k3 ?k5 ?kA ?kF ?kK ?k6 ?k7 ?k8 ?k9 ?kB ?_ ?c2 ?c3 ?c4 ?c5; (case kA => exact rfl); (case kF => assumption); (case kK => assumption); (case k1 => k_asm); (case k2 => k_asm); (case k3 => k_asm); (case k5 => k_asm); (case k6 => k_is); (case k7 => k_is); (case k8 => exact Nat.le_of_ble_eq_true rfl); (case k9 => first | exact BindsTo.of_eq rfl | exact binds_K (by k_in) rfl (by k_is) rfl rfl rfl); (case c5 => decide); (case kB => exact locs rfl); (case c2 => exact rfl); (case c3 => exact rfl); (case c4 => exact rfl))
  intro L' h' F' B' X' T'
  have N' : News s.heap L' h' [] := News.nil
  clear B F X T
  (try dsimp only [List.reverse, List.reverseAux] at F')
  change wpAny _ _ _ _ _ _
  k_fold
  obtain ⟨d, D1, D2, k1, k2, k3, k4, k5, tn, tt, tb, rv, sv, vs, H, hi⟩ := hx
  obtain ⟨a1, a2, a3, a4⟩ := ws_facts H
  k_steps
  (rename Fr _ _ _ _ => kF7)
  rw [show (if (st.b : Int) > (st.cs.length : Int) - 1 then (st.b : Int) else (st.cs.length : Int) - 1) = max ((st.cs.length : Int) - 1) st.b from by split <;> omega]
  exact hret _ _ _ kF7.keep
theorem linesIndent : True := by
  w_top off
  k_with_none
  k_with "getMethod ref" => ((k_here; (with_reducible show wpAny _ _ (getMethod (Value.ref _) (Str.ofString "search") _) _ _ _); k_dflt (refine' search_meth (by k_asm) (by k_asm) (by k_is) ?_; k_whole)))
  k_with "call builtin:re.Pattern.search" => ((k_here; k_dflt (first
  | (refine' search_name (by k_asm) (by k_asm) (by k_is) (by k_is) (by decide +kernel) (by assumption) (by assumption) ?_; k_whole)
  | (refine' search_val (by k_asm) (by k_asm) (by k_is) (by k_is) (by decide +kernel) (by assumption) (by assumption) ?_; k_whole))))
  k_with "mine:le" => (exact Nat.le_of_ble_eq_true rfl)
  k_with "call builtin:str.lower" => ((k_here; (with_reducible show wpAny _ _ (call (Value.builtin "str.lower") [Value.str _ _]) _ _ _); k_dflt (refine' KXw.lower (by assumption) (by (exact low_fit (by assumption))) ?_; k_whole); intro t' k'))
  k_with "mine:moved" => (((rename Keep _ _ => kp9'); (with_reducible rename Fr _ _ _ _ => kF9); (with_reducible rename News _ _ _ _ => kN9); (replace kF9 := fr_keep kF9 kp9'); (replace kN9 := news_keep kN9 kp9'); (try dsimp only at kF9 kN9)))
  k_with "mine:movedN" => (((rename Keep _ _ => kp9'); (rename (Heap.get? _ _ = none) => hn9'); (rename (Heap.get? _ _ = some _) => hq9'); (with_reducible rename Fr _ _ _ _ => kF9); (with_reducible rename News _ _ _ _ => kN9); (replace kN9 := news_add kF9 (news_keep kN9 kp9') hn9' hq9'); (replace kF9 := fr_keep kF9 kp9'); (clear hn9' hq9'); (try dsimp only at kF9 kN9)))
  k_with "assign Tuple" => ((k_here; (with_reducible show wpAny _ _ (assign (Expr.Tuple _ _ _) _ (Value.ref _)) _ _ _); k_dflt (refine' pair_assign (by k_asm) (by k_asm) (by exact ⟨_, Fr.keep (by k_asm) _ _ (by assumption), rfl, _, rfl⟩) (by exact rfl) (by exact rfl) (by exact rfl) (by exact rfl) ?_; k_whole); intro h9 tk9 F9 N9))
  k_with "call builtin:len" => ((k_here; (with_reducible show wpAny _ _ (call (Value.builtin "len") [Value.ref _]) _ _ _); k_dflt (refine' tup_len (by k_asm) (by assumption) (by assumption) (by first | assumption | omega) ?_; k_whole)))
  k_with "subscriptTail" => ((k_here; (with_reducible show wpAny _ _ (subscriptTail _ _ (Value.ref _) (Value.int _ _)) _ _ _); k_dflt (refine' tup_item (by k_asm) (by assumption) (by assumption) (by omega) (by omega) (by omega) ?_ (by with_unfolding_all rfl); k_whole); intro t9))
  k_with "exec For Name Call cons nil" => ((k_here; (with_reducible show wpAny _ _ (exec (Stmt.For (Expr.Name _ _) (Expr.Call (Expr.Name (Str.ofString "range") _) _ _ _) _ [] _) _) _ _ _); (with_reducible rename Fr _ _ _ _ => kF9); k_dflt (refine' For_rangeF kF9 (by exact rfl) ?_; k_whole)))
  trivial
-- room for a contract at its place
-- a written text's lower case is named by a fact
-- behind a contract: the frame's and the ledger's facts at the new heap
-- behind a contract that made an object: its fact joins the ledger

theorem il_shape0 {m m0 : Str → Option Value} {a : Value} (hm : m = fun y => if y = Str.ofString "il" then some a else m0 y) : m = fun y => if y = Str.ofString "il" then some a else over [Str.ofString "i"] m m y := by
  funext y
  have hm' := congrFun hm y
  by_cases h1 : y = Str.ofString "il"
  · subst h1; exact hm'
  simp only [if_neg h1]
  unfold over
  split <;> rfl
theorem il_shape1 {m1 m f : Str → Option Value} {a b c : Value} (hm : m1 = fun y => if y = Str.ofString "il" then some a else if y = Str.ofString "i" then some b else if y = Str.ofString "il" then some c else over [Str.ofString "i"] f m y) :
    m1 = fun y => if y = Str.ofString "il" then some a else over [Str.ofString "i"] (fun _ => some b) m y := by
  subst hm
  funext y
  by_cases h1 : y = Str.ofString "il"
  · subst h1; rfl
  by_cases h2 : y = Str.ofString "i"
  · subst h2; rfl
  simp only [if_neg h1, if_neg h2]
  have hc : [Str.ofString "i"].contains y = false := by simpa using h2
  rw [over_off hc, over_off hc]
set_option maxHeartbeats 4000000 in
theorem indent_ok (w : World) {p : Program} {loose : List Str} {mean : ExcName → Option Value} {mg mb : Str → Option Value} {env : Env} {outer : List Env} {A₀ : Around} {base h₀ : Heap} {L : Addr} {m : Str → Option Value} {s : Shared} {Q E : Value → Shared → Prop}
  (B : Below A₀ base outer h₀) (F : Fr h₀ L s.heap m) (X : (Mine.KK w.params).In h₀) (T : Top p loose mean mg mb h₀) (hf : env.frame = some L) (hke : env.scope.kind = .function)
  {x : Addr} {st : WsSt} {tab : Int} {tk0 : Tok} (hx : WsAt 281 w.params s.heap x st) (h1 : 1 ≤ tab) (h2 : tab ≤ 20) (hs1 : st.cs.length ≤ 20) (hs2 : st.b ≤ 100) (hs3 : st.nt ≤ 100) (hs4 : ∀ a ∈ st.cs, 0 ≤ a ∧ a ≤ 100)
  (hret : ∀ h' tk' t, Keep s.heap h' → Q (.int (levelF st tab) t) { s with heap := h', toks := tk' }) :
  wpAny (model PySem.Challenge.rw_tl0048_01.prog w) (Ar 340 400 env outer) (call (.ref 250) [.ref x, .int tab tk0]) Q E s := by
  revert X; k_fill; intro X
  refine wpAny_call ?_
  k_dflt (refine' base_plain (binds := [(Str.ofString "self", .ref x), (Str.ofString "tabsize", .int tab tk0)]) ?k1 ?k2 ?k3 ?k5 ?kA ?kF ?kK ?k6 ?k7 ?k8 ?k9 ?kB ?_ ?c2 ?c3 ?c4 ?c5; (case kA => exact rfl); (case kF => assumption); (case kK => assumption); (case k1 => k_asm); (case k2 => k_asm); (case k3 => k_asm); (case k5 => k_asm); (case k6 => k_is); (case k7 => k_is); (case k8 => exact Nat.le_of_ble_eq_true rfl); (case k9 => first | exact BindsTo.of_eq rfl | exact binds_K (by k_in) rfl (by k_is) rfl rfl rfl); (case c5 => decide); (case kB => exact locs rfl); (case c2 => exact rfl); (case c3 => exact rfl); (case c4 => exact rfl))
  intro L' h' F' B' X' T'
  have N' : News s.heap L' h' [] := News.nil
  clear B F X T
  (try dsimp only [List.reverse, List.reverseAux] at F')
  change wpAny _ _ _ _ _ _
  k_fold
  obtain ⟨d, D1, D2, k1, k2, k3, k4, k5, tn, tt, tb, rv, sv, vs, H, hi⟩ := hx
  obtain ⟨a1, a2, a3, a4⟩ := ws_facts H
  k_steps
  refine range_pack (fun m news i m₁ news₁ => news₁ = news ∧ ∃ ti f, m₁ = fun y => if y = Str.ofString "il" then some (.int (ilF st.cs tab i) ti) else over [Str.ofString "i"] f m y) (by assumption) (by omega) (by omega) (by omega) (by omega) (by k_asm) (by k_asm) ⟨rfl, _, _, il_shape0 rfl⟩ ?_ ?_
  · rintro i tv m₁ news₁ h₁ tk₁ I oI hi' ⟨rfl, ti, f, rfl⟩ F₁ N₁ hI
    have hcs : 0 ≤ st.cs.getD (tab + (i : Int)).toNat 0 ∧ st.cs.getD (tab + (i : Int)).toNat 0 ≤ 100 := by
      rw [List.getD_eq_getElem?_getD, List.getElem?_eq_getElem (by omega)]
      exact hs4 _ (List.getElem_mem _)
    obtain ⟨hcs1, hcs2⟩ := hcs
    k_steps
    (rename Fr _ _ _ _ => kF7); (rename News _ _ _ _ => kN7)
    exact ⟨_, _, _, _, rfl, kF7, kN7, hI, rfl, _, _, il_shape1 rfl⟩
  · rintro m₁ news₁ h₁ tk₁ ⟨rfl, ti, f, rfl⟩ F₁ N₁
    k_steps
    (rename Fr _ _ _ _ => kF7)
    exact hret _ _ _ kF7.keep
theorem linesKeys : True := by
  w_top off
  k_with_none
  k_with "getMethod ref" => ((k_here; (with_reducible show wpAny _ _ (getMethod (Value.ref _) (Str.ofString "search") _) _ _ _); k_dflt (refine' search_meth (by k_asm) (by k_asm) (by k_is) ?_; k_whole)))
  k_with "call builtin:re.Pattern.search" => ((k_here; k_dflt (first
  | (refine' search_name (by k_asm) (by k_asm) (by k_is) (by k_is) (by decide +kernel) (by assumption) (by assumption) ?_; k_whole)
  | (refine' search_val (by k_asm) (by k_asm) (by k_is) (by k_is) (by decide +kernel) (by assumption) (by assumption) ?_; k_whole))))
  k_with "mine:le" => (exact Nat.le_of_ble_eq_true rfl)
  k_with "call builtin:str.lower" => ((k_here; (with_reducible show wpAny _ _ (call (Value.builtin "str.lower") [Value.str _ _]) _ _ _); k_dflt (refine' KXw.lower (by assumption) (by (exact low_fit (by assumption))) ?_; k_whole); intro t' k'))
  k_with "mine:moved" => (((rename Keep _ _ => kp9'); (with_reducible rename Fr _ _ _ _ => kF9); (with_reducible rename News _ _ _ _ => kN9); (replace kF9 := fr_keep kF9 kp9'); (replace kN9 := news_keep kN9 kp9'); (try dsimp only at kF9 kN9)))
  k_with "mine:movedN" => (((rename Keep _ _ => kp9'); (rename (Heap.get? _ _ = none) => hn9'); (rename (Heap.get? _ _ = some _) => hq9'); (with_reducible rename Fr _ _ _ _ => kF9); (with_reducible rename News _ _ _ _ => kN9); (replace kN9 := news_add kF9 (news_keep kN9 kp9') hn9' hq9'); (replace kF9 := fr_keep kF9 kp9'); (clear hn9' hq9'); (try dsimp only at kF9 kN9)))
  k_with "eval ListComp" => ((k_here; (with_reducible show wpAny _ _ (eval (Expr.ListComp _ _ _ _) _) _ _ _); k_dflt (refine' Comp_list (by exact rfl) (by exact rfl) (by decide) (by exact rfl) (by decide) ?_; k_whole)))
  trivial
-- room for a contract at its place
-- a written text's lower case is named by a fact
-- behind a contract: the frame's and the ledger's facts at the new heap
-- behind a contract that made an object: its fact joins the ledger
set_option maxHeartbeats 4000000 in
theorem keys_ok (w : World) {p : Program} {loose : List Str} {mean : ExcName → Option Value} {mg mb : Str → Option Value} {env : Env} {outer : List Env} {A₀ : Around} {base h₀ : Heap} {L : Addr} {m : Str → Option Value} {s : Shared} {Q E : Value → Shared → Prop}
  (B : Below A₀ base outer h₀) (F : Fr h₀ L s.heap m) (X : (Mine.KK w.params).In h₀) (T : Top p loose mean mg mb h₀) (hf : env.frame = some L) (hke : env.scope.kind = .function)
  {x d l : Addr} {tk0 : Tok} {nL : Nat} {items : List Value} {es : List (Str × Str)}
  (hx : s.heap.get? x = some (instObj 171 d)) (hd : s.heap.get? d = some (dictOf [{ hash := PyData.keyHash w.params (Str.ofString "_headers"), key := .str (Str.ofString "_headers") tk0, val := .ref l }] 1)) (hlst : s.heap.get? l = some (lstO items nL))
  (ht : Tups s.heap items es) (hil : items.length ≤ 1000)
  (hret : ∀ a n vs h' tk', Keep s.heap h' → s.heap.get? a = none → h'.get? a = some (lstO vs n) → StrsAre vs (es.map (·.1)) → Q (.ref a) { s with heap := h', toks := tk' }) :
  wpAny (model PySem.Challenge.rw_tl0048_01.prog w) (Ar 340 400 env outer) (call (.ref 123) [.ref x]) Q E s := by
  revert X; k_fill; intro X
  refine wpAny_call ?_
  k_dflt (refine' base_plain (binds := [(Str.ofString "self", .ref x)]) ?k1 ?k2 ?k3 ?k5 ?kA ?kF ?kK ?k6 ?k7 ?k8 ?k9 ?kB ?_ ?c2 ?c3 ?c4 ?c5; (case kA => exact rfl); (case kF => assumption); (case kK => assumption); (case k1 => k_asm); (case k2 => k_asm); (case k3 => k_asm); (case k5 => k_asm); (case k6 => k_is); (case k7 => k_is); (case k8 => exact Nat.le_of_ble_eq_true rfl); (case k9 => first | exact BindsTo.of_eq rfl | exact binds_K (by k_in) rfl (by k_is) rfl rfl rfl); (case c5 => decide); (case kB => exact locs rfl); (case c2 => exact rfl); (case c3 => exact rfl); (case c4 => exact rfl))
  intro L' h' F' B' X' T'
  have N' : News s.heap L' h' [] := News.nil
  clear B F X T
  (try dsimp only [List.reverse, List.reverseAux] at F')
  change wpAny _ _ _ _ _ _
  k_fold
  k_steps
  (rename Fr _ _ _ _ => kF7)
  refine ⟨l, items.toArray, rfl, ⟨_, kF7.keep _ _ hlst, rfl, _, rfl⟩, ?_, go_tuple fun v hv => Tups.refs ht v (by simpa using hv), fun i ys news => news = [] ∧ StrsAre ys ((es.take i).map (·.1)), ⟨rfl, .nil⟩, ?_, ?_⟩
  · rw [List.size_toArray, sizeLine_eq]
    omega
  · rintro hb C D I oI i v ys nD news mC h₁ tk₁ E' kb hx' ⟨rfl, hst⟩ FC NC hne hID
    obtain ⟨e, r, ta, tb, he, rfl, hr⟩ := Tups.at ht (i := i) (v := v) (by simpa using hx')
    refine pair_assign (T := r) (x := .str e.1 ta) (y := .str e.2 tb) FC NC ⟨_, FC.keep _ _ (kb _ _ (kF7.keep _ _ hr)), rfl, _, rfl⟩ rfl rfl rfl rfl fun h₂ tk₂ F₂ N₂ => ?_
    k_steps
    any_goals (show CompEnd _ _ _ _ _ _ _ _ _; refine ⟨_, _, _, [], rfl, F₂, N₂, hne, rfl, ?_⟩; obtain ⟨hlt, rfl⟩ := List.getElem?_eq_some_iff.mp he; rw [List.take_succ_eq_append_getElem hlt, List.map_append]; exact StrsAre.append' hst (.cons _ _ .nil))
    all_goals (first | exact [] | exact (0 : Nat) | exact default)
  · rintro ys D nD news h9 tk9 ⟨rfl, hst⟩ kk hD hD' hnews
    refine hret D nD ys h9 tk9 (Keep.trans kF7.keep kk) ?_ hD' (by simpa [Tups.length ht] using hst)
    cases q : s.heap.get? D with
    | none => rfl
    | some o =>
      have := kF7.keep _ _ q
      rw [this] at hD
      cases hD
theorem linesParse : True := by
  w_top off
  k_with_none
  k_with "getMethod ref" => ((k_here; (with_reducible show wpAny _ _ (getMethod (Value.ref _) (Str.ofString "search") _) _ _ _); k_dflt (refine' search_meth (by k_asm) (by k_asm) (by k_is) ?_; k_whole)))
  k_with "call builtin:re.Pattern.search" => ((k_here; k_dflt (first
  | (refine' search_name (by k_asm) (by k_asm) (by k_is) (by k_is) (by decide +kernel) (by assumption) (by assumption) ?_; k_whole)
  | (refine' search_val (by k_asm) (by k_asm) (by k_is) (by k_is) (by decide +kernel) (by assumption) (by assumption) ?_; k_whole))))
  k_with "mine:le" => (exact Nat.le_of_ble_eq_true rfl)
  k_with "call builtin:str.lower" => ((k_here; (with_reducible show wpAny _ _ (call (Value.builtin "str.lower") [Value.str _ _]) _ _ _); k_dflt (refine' KXw.lower (by assumption) (by (exact low_fit (by assumption))) ?_; k_whole); intro t' k'))
  k_with "mine:moved" => (((rename Keep _ _ => kp9'); (with_reducible rename Fr _ _ _ _ => kF9); (with_reducible rename News _ _ _ _ => kN9); (replace kF9 := fr_keep kF9 kp9'); (replace kN9 := news_keep kN9 kp9'); (try dsimp only at kF9 kN9)))
  k_with "mine:movedN" => (((rename Keep _ _ => kp9'); (rename (Heap.get? _ _ = none) => hn9'); (rename (Heap.get? _ _ = some _) => hq9'); (with_reducible rename Fr _ _ _ _ => kF9); (with_reducible rename News _ _ _ _ => kN9); (replace kN9 := news_add kF9 (news_keep kN9 kp9') hn9' hq9'); (replace kF9 := fr_keep kF9 kp9'); (clear hn9' hq9'); (try dsimp only at kF9 kN9)))
  k_with "call builtin:str.find" => ((k_here; k_dflt (first | (refine' KXw.find (by assumption) ?_; k_whole) | (refine' find3_known (by assumption) ?_; k_whole)); intro t' k'))
  k_with "call builtin:str.split" => ((k_here; k_dflt (refine' split_known (by assumption) (by k_asm) (by k_asm) (by assumption) (by assumption) ?_; k_whole); intro D' h' k' t1' t2' t3' t4' t5' F' N' l1; (try k_lt l1)))
  k_with "call type:int" => ((k_here; (with_reducible show wpAny _ _ (call (Value.type "int") [Value.str _ _]) _ _ _); k_dflt (refine' int_known (by assumption) (by assumption) ?_; k_whole); intro t' k'))
  k_with "subscriptTail" => ((k_here; (with_reducible show wpAny _ _ (subscriptTail _ _ (Value.ref _) (Value.int _ _)) _ _ _); k_dflt (refine' item_tupleT (by exact tup_base (by k_asm) (by assumption)) (by decide) (by decide) (by rfl) (by rfl) ?_; k_whole)))
  trivial
-- room for a contract at its place
-- a written text's lower case is named by a fact
-- behind a contract: the frame's and the ledger's facts at the new heap
-- behind a contract that made an object: its fact joins the ledger

set_option maxHeartbeats 4000000 in
theorem parse_ok (w : World) {p : Program} {loose : List Str} {mean : ExcName → Option Value} {mg mb : Str → Option Value} {env : Env} {outer : List Env} {A₀ : Around} {base h₀ : Heap} {L : Addr} {m : Str → Option Value} {s : Shared} {Q E : Value → Shared → Prop}
  (B : Below A₀ base outer h₀) (F : Fr h₀ L s.heap m) (X : (Mine.KK w.params).In h₀) (T : Top p loose mean mg mb h₀) (hf : env.frame = some L) (hke : env.scope.kind = .function)
  {peer : Addr} {resp owner : Str} {t to tp : Tok} {port : Int} (hp : s.heap.get? peer = some (tupO [.str owner to, .int 21 tp]))
  {r : Int} {a b c prt e5 : Str} (R : IsReply resp port r a b c prt e5)
  (hret : ∀ q t1 t2 h' tk', Keep s.heap h' → s.heap.get? q = none → h'.get? q = some (tupO [.str owner t1, .int port t2]) → Q (.ref q) { s with heap := h', toks := tk' }) :
  wpAny (model PySem.Challenge.rw_tl0048_01.prog w) (Ar 360 600 env outer) (call (.ref 219) [.str resp t, .ref peer]) Q E s := by
  revert X; k_fill; intro X
  refine wpAny_call ?_
  k_dflt (refine' base_plain (binds := [(Str.ofString "resp", .str resp t), (Str.ofString "peer", .ref peer)]) ?k1 ?k2 ?k3 ?k5 ?kA ?kF ?kK ?k6 ?k7 ?k8 ?k9 ?kB ?_ ?c2 ?c3 ?c4 ?c5; (case kA => exact rfl); (case kF => assumption); (case kK => assumption); (case k1 => k_asm); (case k2 => k_asm); (case k3 => k_asm); (case k5 => k_asm); (case k6 => k_is); (case k7 => k_is); (case k8 => exact Nat.le_of_ble_eq_true rfl); (case k9 => first | exact BindsTo.of_eq rfl | exact binds_K (by k_in) rfl (by k_is) rfl rfl rfl); (case c5 => decide); (case kB => exact locs rfl); (case c2 => exact rfl); (case c3 => exact rfl); (case c4 => exact rfl))
  intro L' h' F' B' X' T'
  have N' : News s.heap L' h' [] := News.nil
  clear B F X T
  (try dsimp only [List.reverse, List.reverseAux] at F')
  change wpAny _ _ _ _ _ _
  k_fold
  obtain ⟨hlen, hlo, hhi, s3, f1, f2, i2, sl, sp, ml, it, pl⟩ := R
  k_steps
  · exfalso; simp_all
  · exfalso; simp_all
  (rename Fr _ _ _ _ => kF); (rename News _ _ _ _ => kN)
  exact hret _ _ _ _ _ kF.keep (kN.fresh (.head _)) (kN.get (.head _))
theorem linesHeld : True := by
  w_top off
  k_with_none
  k_with "getMethod ref" => ((k_here; (with_reducible show wpAny _ _ (getMethod (Value.ref _) (Str.ofString "search") _) _ _ _); k_dflt (refine' search_meth (by k_asm) (by k_asm) (by k_is) ?_; k_whole)))
  k_with "call builtin:re.Pattern.search" => ((k_here; k_dflt (first
  | (refine' search_name (by k_asm) (by k_asm) (by k_is) (by k_is) (by decide +kernel) (by assumption) (by assumption) ?_; k_whole)
  | (refine' search_val (by k_asm) (by k_asm) (by k_is) (by k_is) (by decide +kernel) (by assumption) (by assumption) ?_; k_whole))))
  k_with "mine:le" => (exact Nat.le_of_ble_eq_true rfl)
  k_with "call builtin:str.lower" => ((k_here; (with_reducible show wpAny _ _ (call (Value.builtin "str.lower") [Value.str _ _]) _ _ _); k_dflt (refine' KXw.lower (by assumption) (by (exact low_fit (by assumption))) ?_; k_whole); intro t' k'))
  k_with "mine:moved" => (((rename Keep _ _ => kp9'); (with_reducible rename Fr _ _ _ _ => kF9); (with_reducible rename News _ _ _ _ => kN9); (replace kF9 := fr_keep kF9 kp9'); (replace kN9 := news_keep kN9 kp9'); (try dsimp only at kF9 kN9)))
  k_with "mine:movedN" => (((rename Keep _ _ => kp9'); (rename (Heap.get? _ _ = none) => hn9'); (rename (Heap.get? _ _ = some _) => hq9'); (with_reducible rename Fr _ _ _ _ => kF9); (with_reducible rename News _ _ _ _ => kN9); (replace kN9 := news_add kF9 (news_keep kN9 kp9') hn9' hq9'); (replace kF9 := fr_keep kF9 kp9'); (clear hn9' hq9'); (try dsimp only at kF9 kN9)))
  k_with "call builtin:str.find" => ((k_here; k_dflt (first | (refine' KXw.find (by assumption) ?_; k_whole) | (refine' find3_known (by assumption) ?_; k_whole)); intro t' k'))
  k_with "call builtin:str.split" => ((k_here; k_dflt (refine' split_known (by assumption) (by k_asm) (by k_asm) (by assumption) (by assumption) ?_; k_whole); intro D' h' k' t1' t2' t3' t4' t5' F' N' l1; (try k_lt l1)))
  k_with "call type:int" => ((k_here; (with_reducible show wpAny _ _ (call (Value.type "int") [Value.str _ _]) _ _ _); k_dflt (refine' int_known (by assumption) (by assumption) ?_; k_whole); intro t' k'))
  k_with "subscriptTail" => ((k_here; (with_reducible show wpAny _ _ (subscriptTail _ _ (Value.ref _) (Value.int _ _)) _ _ _); k_dflt (refine' item_tupleT (by exact tup_base (by k_asm) (by assumption)) (by decide) (by decide) (by rfl) (by rfl) ?_; k_whole)))
  k_with "eval ListComp" => ((k_here; (with_reducible show wpAny _ _ (eval (Expr.ListComp _ _ _ _) _) _ _ _); k_dflt (refine' Comp_list (by exact rfl) (by exact rfl) (by decide) (by exact rfl) (by decide) ?_; k_whole)))
  k_with "call ref" => ((k_here; (with_reducible show wpAny _ _ (call (Value.ref 297) _ _) _ _ _); k_dflt (refine' at_le (by exact rfl) (by exact rfl) (by walk_at "mine:le") (by walk_at "mine:le") (lead_ok _ (by k_asm) (by k_asm) (by k_asm) (by k_asm) (by exact rfl) (by exact rfl) (by first | assumption | exact Fr.keep (by k_asm) _ _ (by assumption)) (by assumption) (by assumption) (by assumption) ?_); k_whole); intro x9 d9 D19 D29 k19 k29 k39 k49 k59 tn9 tt9 tb9 rv9 sv9 vs9 h9 tk9 kp9 hw9 hi9; walk_at "mine:moved"))
  k_with "call ref" => ((k_here; (with_reducible show wpAny _ _ (call (Value.ref 123) _ _) _ _ _); k_dflt (refine' at_le (by exact rfl) (by exact rfl) (by walk_at "mine:le") (by walk_at "mine:le") (keys_ok _ (by k_asm) (by k_asm) (by k_asm) (by k_asm) (by exact rfl) (by exact rfl) (by exact Fr.keep (by k_asm) _ _ (by assumption)) (by exact Fr.keep (by k_asm) _ _ (by assumption)) (by exact Fr.keep (by k_asm) _ _ (by assumption)) (by exact Tups.keep (Fr.keep (by k_asm)) (by assumption)) (by assumption) ?_); k_whole); intro q9 n9 vs9 h9 tk9 kp9 hn9 hq9 hst9; walk_at "mine:movedN"))
  trivial
-- room for a contract at its place
-- a written text's lower case is named by a fact
-- behind a contract: the frame's and the ledger's facts at the new heap
-- behind a contract that made an object: its fact joins the ledger

theorem strs_len : ∀ {vs : List Value} {ys : List Str}, StrsAre vs ys → vs.length = ys.length
  | _, _, .nil => rfl
  | _, _, .cons _ _ h => by rw [List.length_cons, List.length_cons, strs_len h]
theorem strs_at : ∀ {vs : List Value} {ys : List Str} {i : Nat} {v : Value}, StrsAre vs ys → vs[i]? = some v → ∃ x t, ys[i]? = some x ∧ v = .str x t
  | _, _, 0, _, .cons x t _, e => by simp at e; exact ⟨x, t, rfl, e.symm⟩
  | _, _, i + 1, _, .cons _ _ h, e => by
    obtain ⟨x, t, a, b⟩ := strs_at h (i := i) (by simpa using e)
    exact ⟨x, t, by simpa using a, b⟩
set_option maxHeartbeats 4000000 in
theorem held_ok (w : World) {p : Program} {loose : List Str} {mean : ExcName → Option Value} {mg mb : Str → Option Value} {env : Env} {outer : List Env} {A₀ : Around} {base h₀ : Heap} {L : Addr} {m : Str → Option Value} {s : Shared} {Q E : Value → Shared → Prop}
  (B : Below A₀ base outer h₀) (F : Fr h₀ L s.heap m) (X : (Mine.KK w.params).In h₀) (T : Top p loose mean mg mb h₀) (hf : env.frame = some L) (hke : env.scope.kind = .function)
  {x d l : Addr} {tk0 : Tok} {nL : Nat} {items : List Value} {es : List (Str × Str)} {ps : List Int}
  (hx : s.heap.get? x = some (instObj 171 d)) (hd : s.heap.get? d = some (dictOf [{ hash := PyData.keyHash w.params (Str.ofString "_headers"), key := .str (Str.ofString "_headers") tk0, val := .ref l }] 1)) (hlst : s.heap.get? l = some (lstO items nL))
  (ht : Tups s.heap items es) (hil : items.length ≤ 1000) (hps : PortsOf es ps) (hlen : ps.length ≤ 6)
  (hret : ∀ x d D1 D2 k1 k2 k3 k4 k5 tn tt tb rv sv vs h' tk', Keep s.heap h' → (∀ p ∈ wsL 281 w.params x d D1 D2 k1 k2 k3 k4 k5 rv (.int (wsFold (codesF ps)).n tn) (.int (wsFold (codesF ps)).nt tt) (.int (wsFold (codesF ps)).b tb) sv vs, h'.get? p.1 = some p.2 ∧ s.heap.get? p.1 = none) → IntsAre vs (wsFold (codesF ps)).cs → Q (.ref x) { s with heap := h', toks := tk' }) :
  wpAny (model PySem.Challenge.rw_tl0048_01.prog w) (Ar 315 150 env outer) (call (.ref 302) [.ref x]) Q E s := by
  revert X; k_fill; intro X
  refine wpAny_call ?_
  k_dflt (refine' base_plain (binds := [(Str.ofString "table", .ref x)]) ?k1 ?k2 ?k3 ?k5 ?kA ?kF ?kK ?k6 ?k7 ?k8 ?k9 ?kB ?_ ?c2 ?c3 ?c4 ?c5; (case kA => exact rfl); (case kF => assumption); (case kK => assumption); (case k1 => k_asm); (case k2 => k_asm); (case k3 => k_asm); (case k5 => k_asm); (case k6 => k_is); (case k7 => k_is); (case k8 => exact Nat.le_of_ble_eq_true rfl); (case k9 => first | exact BindsTo.of_eq rfl | exact binds_K (by k_in) rfl (by k_is) rfl rfl rfl); (case c5 => decide); (case kB => exact locs rfl); (case c2 => exact rfl); (case c3 => exact rfl); (case c4 => exact rfl))
  intro L' h' F' B' X' T'
  have N' : News s.heap L' h' [] := News.nil
  clear B F X T
  (try dsimp only [List.reverse, List.reverseAux] at F')
  change wpAny _ _ _ _ _ _
  k_fold
  k_steps
  (rename Fr _ _ _ _ => kF9); (rename News _ _ _ _ => kN9); (rename StrsAre _ _ => hst9); (rename (List Value) => vs9)
  have hvl := strs_len hst9
  refine ⟨_, _, rfl, News.isList kN9 (.head _), ?_, go_name, fun i ys news => news = [] ∧ IntsAre ys (ps.take i), ⟨rfl, .nil⟩, ?_, ?_⟩
  · have := Tups.length ht
    rw [List.size_toArray, sizeLine_eq, hvl, List.length_map]
    omega
  · rintro hb C D I oI i v ys nD news mC h₁ tk₁ E' kb hx' ⟨rfl, hst⟩ FC NC hne hID
    obtain ⟨nm, tv, hnm, rfl⟩ := strs_at hst9 (i := i) (v := v) (by simpa using hx')
    obtain ⟨e, he, rfl⟩ : ∃ e, es[i]? = some e ∧ e.1 = nm := by simpa using hnm
    obtain ⟨k, q, k0, k1, q0, q1, hq, hnmq⟩ := hps.2 i e he
    obtain ⟨t1, t2, t3⟩ := tail_facts k0 k1 q0 q1
    have t4 : e.1.length = 2 := by rw [hnmq]; exact (nm_facts k0 k1 q0 q1).2.2.2.1
    rw [← hnmq] at t1
    rw [← t1] at t2 t3
    have kb2 : Keep s.heap hb := Keep.trans kF9.keep kb
    have Xb : (Mine.KK w.params).In hb := Frag.In.keeps (by k_asm) kb2
    have Tb : Top p loose mean mg mb hb := Top.keeps (by k_asm) kb2
    clear kF9 kN9
    refine name_assign FC NC rfl rfl fun h₂ F₂ N₂ => ?_
    clear FC NC
    k_steps
    any_goals (show CompEnd _ _ _ _ _ _ _ _ _; (rename Fr _ _ _ _ => kF7); (rename News _ _ _ _ => kN7); refine ⟨_, _, _, [], rfl, kF7, kN7, hne, rfl, ?_⟩; obtain ⟨hlt, rfl⟩ := List.getElem?_eq_some_iff.mp hq; rw [List.take_succ_eq_append_getElem hlt]; exact IntsAre.append hst (.cons _ _ .nil))
    all_goals (first | exact [] | exact (0 : Nat) | exact (Str.ofString "") | exact Value.none | exact default)
  · rintro ys D nD news h9 tk9 ⟨rfl, hst⟩ kk hD hD' hnews
    have hvz : vs9.toArray.size = ps.length := by
      rw [List.size_toArray, hvl, List.length_map]
      exact hps.1
    rw [hvz, List.take_length] at hst
    have hsm : SmallP ps := fun a ha => by
      obtain ⟨i, hi, rfl⟩ := List.mem_iff_getElem.mp ha
      have hi' : i < es.length := by rw [hps.1]; exact hi
      obtain ⟨k, q, _, _, q0, q1, hq, _⟩ := hps.2 i es[i] (by simp [hi'])
      have : ps[i] = q := by simpa [hi] using hq
      rw [this]
      omega
    have kF6 := fr_keep kF9 kk
    have kN6 := news_add kF9 (news_keep kN9 kk) hD hD'
    have kx := Keep.trans kF9.keep kk
    clear kF9 kN9
    k_steps
    (rename (∀ p ∈ wsL _ _ _ _ _ _ _ _ _ _ _ _ _ _ _ _ _, _) => hw9); (rename IntsAre _ _ => hi9); (rename Fr _ _ _ _ => kF5)
    refine hret _ _ _ _ _ _ _ _ _ _ _ _ _ _ _ _ _ kF5.keep (fun p hp => ⟨(hw9 p hp).1, ?_⟩) hi9
    cases e : s.heap.get? p.1 with
    | none => rfl
    | some o =>
      have := (hw9 p hp).2
      rw [kx _ _ e] at this
      cases this
section
theorem linesSeek : True := by
  w_top off
  k_with_none
  k_with "getMethod ref" => ((k_here; (with_reducible show wpAny _ _ (getMethod (Value.ref _) (Str.ofString "search") _) _ _ _); k_dflt (refine' search_meth (by k_asm) (by k_asm) (by k_is) ?_; k_whole)))
  k_with "call builtin:re.Pattern.search" => ((k_here; k_dflt (first
  | (refine' search_name (by k_asm) (by k_asm) (by k_is) (by k_is) (by decide +kernel) (by assumption) (by assumption) ?_; k_whole)
  | (refine' search_val (by k_asm) (by k_asm) (by k_is) (by k_is) (by decide +kernel) (by assumption) (by assumption) ?_; k_whole))))
  k_with "mine:le" => (exact Nat.le_of_ble_eq_true rfl)
  k_with "call builtin:str.lower" => ((k_here; (with_reducible show wpAny _ _ (call (Value.builtin "str.lower") [Value.str _ _]) _ _ _); k_dflt (refine' KXw.lower (by assumption) (by (exact low_fit (by assumption))) ?_; k_whole); intro t' k'))
  k_with "mine:moved" => (((rename Keep _ _ => kp9'); (with_reducible rename Fr _ _ _ _ => kF9); (with_reducible rename News _ _ _ _ => kN9); (replace kF9 := fr_keep kF9 kp9'); (replace kN9 := news_keep kN9 kp9'); (try dsimp only at kF9 kN9)))
  k_with "mine:movedN" => (((rename Keep _ _ => kp9'); (rename (Heap.get? _ _ = none) => hn9'); (rename (Heap.get? _ _ = some _) => hq9'); (with_reducible rename Fr _ _ _ _ => kF9); (with_reducible rename News _ _ _ _ => kN9); (replace kN9 := news_add kF9 (news_keep kN9 kp9') hn9' hq9'); (replace kF9 := fr_keep kF9 kp9'); (clear hn9' hq9'); (try dsimp only at kF9 kN9)))
  k_with "call ref" => ((k_here; (with_reducible show wpAny _ _ (call (Value.ref 219) _ _) _ _ _); k_dflt (refine' at_le (by exact rfl) (by exact rfl) (by walk_at "mine:le") (by walk_at "mine:le") (parse_ok _ (by k_asm) (by k_asm) (by k_asm) (by k_asm) (by exact rfl) (by exact rfl) (by first | exact News.get (by k_asm) (by k_mem) | exact Fr.keep (by k_asm) _ _ (by assumption)) (by first | assumption | (walk_at "mine:reply")) ?_); k_whole); intro q9 t19 t29 h9 tk9 kp9 hn9 hq9; walk_at "mine:movedN"))
  k_with "exec For Name Call cons nil" => ((k_here; (with_reducible show wpAny _ _ (exec (Stmt.For (Expr.Name _ _) (Expr.Call (Expr.Name (Str.ofString "range") _) _ _ _) _ [] _) _) _ _ _); (with_reducible rename Fr _ _ _ _ => kF9); k_dflt (refine' For_rangeF kF9 (by exact rfl) ?_; k_whole)))
  k_with "exec While Compare" => ((k_here; (with_reducible rename Fr _ _ _ _ => kF9); k_dflt (refine' While_inF kF9 ?_)))
  k_with "mine:reply" => (exact reply_facts (by omega) (by omega) (by omega) (by omega))
  trivial
-- room for a contract at its place
-- a written text's lower case is named by a fact
-- behind a contract: the frame's and the ledger's facts at the new heap
-- behind a contract that made an object: its fact joins the ledger



local macro_rules | `(tactic| walk_at "call ref") => `(tactic| (k_here; (with_reducible show wpAny _ _ (call (Value.ref 161) _ _) _ _ _); k_dflt (refine' at_le ?a1 ?a2 ?a3 ?a4 (setdefault_ok _ ?B ?F ?X ?T ?hf ?hk (news_one ?N ?hm) ?hx ?hd ?ht ?hlow ?hq ?hnf ?hvf ?hvl ?hnl ?hql ?hes ?hil ?hit ?miss); (case a1 => exact rfl); (case a2 => exact rfl); (case a3 => walk_at "mine:le"); (case a4 => walk_at "mine:le"); (case B => k_asm); (case F => k_asm); (case X => k_asm); (case T => k_asm); (case hf => exact rfl); (case hk => exact rfl); (case N => (with_reducible assumption)); (case hx => exact News.get (by k_asm) (by k_mem)); (case hd => exact News.get (by k_asm) (by k_mem)); (case hm => exact .tail _ (.tail _ (.tail _ (.head _)))); (case ht => exact TupsOf.tups (by assumption) fun p hp => News.tail' (by assumption) p (.tail _ (.tail _ (.tail _ hp)))); (case hlow => assumption); (case hq => assumption); (case hnf => assumption); (case hvf => assumption); (case hvl => assumption); (case hnl => assumption); (case hql => assumption); (case hes => assumption); (case hil => assumption)); (case' hit => (intro e9 t9 h9 tk9 he9 kp9; walk_at "mine:moved")); (case' miss => (intro a9 n9 h9 tk9 t29 t39 he9 kp9 hn9 hq9 hl9; (with_reducible rename Fr _ _ _ _ => kF9); (with_reducible rename News _ _ _ _ => kN9); (obtain ⟨kF8, kN8, kT8, kg8⟩ := app_facts kF9 kN9 (by assumption) (by assumption) kp9 hn9 hq9 hl9); (clear kF9 kN9)))))

theorem put_same {x : Str} {v : Value} {m : Str → Option Value} : (fun y => if y = x then some v else m y) = fun y => if y = x then some v else (fun y => if y = x then some v else m y) y := by
  funext y
  by_cases h : y = x
  · simp only [if_pos h]
  · simp only [if_neg h]
theorem put_put {x : Str} {v v' : Value} {m : Str → Option Value} : (fun y => if y = x then some v else (fun y => if y = x then some v' else m y) y) = fun y => if y = x then some v else m y := by
  funext y
  by_cases h : y = x
  · simp only [if_pos h]
  · simp only [if_neg h]
theorem over_putS {x : Str} {v : Value} {names : List Str} {m m' : Str → Option Value} (h : names.contains x = true) (hf : ∃ f, m' = over names f m) : ∃ f, (fun y => if y = x then some v else m' y) = over names f m := by
  obtain ⟨f, rfl⟩ := hf
  refine over_of fun z hz => ?_
  have : z ≠ x := by
    rintro rfl
    rw [h] at hz
    cases hz
  simp only [if_neg this]
  exact over_off hz
set_option maxHeartbeats 8000000 in
theorem seek_ok (w : World) {p : Program} {loose : List Str} {mean : ExcName → Option Value} {mg mb : Str → Option Value} {env : Env} {outer : List Env} {A₀ : Around} {base h₀ : Heap} {L : Addr} {m : Str → Option Value} {s : Shared} {Q E : Value → Shared → Prop}
  (B : Below A₀ base outer h₀) (F : Fr h₀ L s.heap m) (X : (Mine.KK w.params).In h₀) (T : Top p loose mean mg mb h₀) (hf : env.frame = some L) (hke : env.scope.kind = .function)
  {lw : Addr} {nW : Nat} {vs : List Value} {ws : List Int} {turn size : Int} {t1 t2 : Tok} (hlw : s.heap.get? lw = some (lstO vs nW)) (hi : IntsAre vs ws) (hw : ws.length ≤ 5) (hs0 : 5 ≤ size) (hs1 : size ≤ 6) (hws : (ws.length : Int) < size)
  (hw0 : ∀ a ∈ ws, 0 ≤ a ∧ a < size) (ht0 : 0 ≤ turn) (ht1 : turn < size)
  (hret : ∀ x d l tk0 nL tups h' tk', Keep s.heap h' → (∀ p ∈ tabL 171 w.params x d l tk0 nL tups, h'.get? p.1 = some p.2 ∧ s.heap.get? p.1 = none) → TupsOf tups (entF turn size ws ws.length) → Q (.ref x) { s with heap := h', toks := tk' }) :
  wpAny (model PySem.Challenge.rw_tl0048_01.prog w) (Ar 320 200 env outer) (call (.ref 292) [.ref lw, .int turn t1, .int size t2]) Q E s := by
  revert X; k_fill; intro X
  refine wpAny_call ?_
  k_dflt (refine' base_plain (binds := [(Str.ofString "wishes", .ref lw), (Str.ofString "turn", .int turn t1), (Str.ofString "size", .int size t2)]) ?k1 ?k2 ?k3 ?k5 ?kA ?kF ?kK ?k6 ?k7 ?k8 ?k9 ?kB ?_ ?c2 ?c3 ?c4 ?c5; (case kA => exact rfl); (case kF => assumption); (case kK => assumption); (case k1 => k_asm); (case k2 => k_asm); (case k3 => k_asm); (case k5 => k_asm); (case k6 => k_is); (case k7 => k_is); (case k8 => exact Nat.le_of_ble_eq_true rfl); (case k9 => first | exact BindsTo.of_eq rfl | exact binds_K (by k_in) rfl (by k_is) rfl rfl rfl); (case c5 => decide); (case kB => exact locs rfl); (case c2 => exact rfl); (case c3 => exact rfl); (case c4 => exact rfl))
  intro L' h' F' B' X' T'
  have N' : News s.heap L' h' [] := News.nil
  clear B F X T
  (try dsimp only [List.reverse, List.reverseAux] at F')
  change wpAny _ _ _ _ _ _
  k_fold
  have hl : s.heap.IsList lw vs.toArray := ⟨_, hlw, rfl, _, rfl⟩
  k_steps
  refine range_pack (fun m nw i m₁ news₁ => ∃ x d l tk0 nL tups, m (Str.ofString "table") = some (.ref x) ∧ news₁ = tabL 171 w.params x d l tk0 nL tups ∧ TupsOf tups (entF turn size ws i) ∧ ∃ f, m₁ = over [Str.ofString "k", Str.ofString "mark", Str.ofString "reply", Str.ofString "owner", Str.ofString "port"] f m) (by assumption) (by decide) (by decide) (by omega) (by omega) (by k_asm) (by k_asm) ?_ ?_ ?_
  · exact ⟨_, _, _, _, 0, [], rfl, rfl, trivial, over_refl⟩
  · rintro i tv m₁ news₁ h₁ tk₁ I oI hi' ⟨x, d, l, tk0, nL, tups, hx, rfl, htu, f, rfl⟩ F₁ N₁ hI
    have hik : (i : Int) < ws.length := by omega
    simp only [if_true] at hx
    cases hx
    (try dsimp only at F₁)
    rw [show (0 : Int) + (i : Int) = (i : Int) from Int.zero_add _]
    have hp0 : 0 ≤ (ws.getD ((i : Int)).toNat 0 + turn).fmod size := fmod_lo (by omega)
    have hp1 : (ws.getD ((i : Int)).toNat 0 + turn).fmod size < size := fmod_hi (by omega)
    have hi0 : (0 : Int) ≤ (i : Int) := Int.natCast_nonneg i
    have hi5 : (i : Int) < 5 := by omega
    k_steps
    (with_reducible rename Fr _ _ _ _ => kF9)
    rw [show (6000 : Int) + (ws.getD ((i : Int)).toNat 0 + turn).fmod size - 6000 = (ws.getD ((i : Int)).toNat 0 + turn).fmod size from by omega] at kF9
    rw [Int.toNat_natCast] at *
    have hil : i < ws.length := by omega
    have hsl := stands_len (turn := turn) (size := size) (ws := ws) (Nat.le_of_lt hil)
    have hfree := probe_free (T := standsF turn size ws i) hs0 hs1 (by omega) hp0 hp1
    have hes := ent_small (turn := turn) (ws := ws) (i := i) hs0 hs1 (by omega) (by omega)
    have hel := ent_len (turn := turn) (size := size) (ws := ws) (i := i) (by omega)
    have hcl : (tups.map fun p => Value.ref p.1).length ≤ 1000 := by
      have := htu.length
      rw [List.length_map]
      omega
    have hof := own_facts hi0 hi5
    obtain ⟨hof1, hof2, _⟩ := hof
    refine while_pack (fun m news n m₁ news₁ => news₁ = news ∧ ∃ q tq, 0 ≤ q ∧ q < size ∧ probeF size (standsF turn size ws i) n q = probeF size (standsF turn size ws i) 6 ((ws.getD i 0 + turn).fmod size) ∧ m₁ = fun y => if y = Str.ofString "port" then some (.int q tq) else m y) 6 kF9 (News.tail' (News.tail' (by assumption))) ⟨rfl, _, _, hp0, hp1, rfl, put_same⟩ ?_
    · rintro n m₁ news₁ h₁ tk₁ F₂ N₂ ⟨rfl, q, tq, q0, q1, hpr, rfl⟩
      have q6 : q < 6 := by omega
      obtain ⟨hn1, hn2, hn3, hn4, hn5⟩ := nm_facts hi0 hi5 q0 q6
      have hn6 : (nmF (i : Int) q).length ≤ 1000 := by rw [hn4]; omega
      have hn7 : (lowF q).length ≤ 1048576 := by rw [hn5]; omega
      have hof3 : (ownF (i : Int)).length ≤ 1000 := by rw [hof2]; omega
      clear kF9
      (try dsimp only at F₂)
      k_steps
      · exact absurd ‹(_ != _) = true› (by simp)
      · (rename_i kF8 kN8 kT8 kg8 _)
        refine ⟨_, _, _, _, rfl, kF8, kN8, kg8, ⟨_, d, l, tk0, _, _, rfl, rfl, ?_, ?_⟩⟩
        · have hnot := ent_find_none (i := i) (ws := ws) (turn := turn) hs0 hs1 (by omega) (by omega) q0 q1 (by assumption)
          have hq : q = probeF size (standsF turn size ws i) 6 ((ws.getD i 0 + turn).fmod size) := by
            rw [← hpr]
            cases n with
            | zero => rfl
            | succ n => unfold probeF; rw [if_neg hnot]
          rw [ent_succ hil, ← hq]
          exact kT8
        · repeat' (first | exact ⟨_, rfl⟩ | refine over_putS (by decide) ?_)
      · have hin := ent_find_some (i := i) (ws := ws) (turn := turn) hs0 hs1 (by omega) (by omega) q0 q1 (by assumption)
        (rename Fr _ _ _ _ => kF7); (rename News _ _ _ _ => kN7)
        cases n with
        | zero => exact absurd (show q ∈ _ from hin.1) (fun h => hfree (by rw [← hpr]; exact h))
        | succ n =>
          refine WhileStep.intro (n' := n) kF7 kN7 (by omega) ⟨rfl, _, _, fmod_lo (by omega), fmod_hi (by omega), ?_, put_put⟩
          rw [← hpr]
          conv => rhs; unfold probeF
          rw [if_pos hin.1]
      · have hin := ent_find_some (i := i) (ws := ws) (turn := turn) hs0 hs1 (by omega) (by omega) q0 q1 (by assumption)
        exact absurd ‹(_ != _) = false› (by simpa using hin.2.1)
  · rintro m₁ news₁ h₁ tk₁ ⟨x, d, l, tk0, nL, tups, hx, rfl, htu, f, rfl⟩ F₁ N₁
    simp only [if_true] at hx
    cases hx
    have hn : ((ws.length : Int) - 0).toNat = ws.length := by omega
    rw [hn] at htu
    (try dsimp only at F₁)
    k_steps
    exact hret _ _ _ _ _ _ _ _ F₁.keep (fun p hp => ⟨(N₁ p hp).1, (N₁ p hp).2.2⟩) htu
end
theorem linesTaken : True := by
  w_top off
  k_with_none
  k_with "getMethod ref" => ((k_here; (with_reducible show wpAny _ _ (getMethod (Value.ref _) (Str.ofString "search") _) _ _ _); k_dflt (refine' search_meth (by k_asm) (by k_asm) (by k_is) ?_; k_whole)))
  k_with "call builtin:re.Pattern.search" => ((k_here; k_dflt (first
  | (refine' search_name (by k_asm) (by k_asm) (by k_is) (by k_is) (by decide +kernel) (by assumption) (by assumption) ?_; k_whole)
  | (refine' search_val (by k_asm) (by k_asm) (by k_is) (by k_is) (by decide +kernel) (by assumption) (by assumption) ?_; k_whole))))
  k_with "mine:le" => (exact Nat.le_of_ble_eq_true rfl)
  k_with "call builtin:str.lower" => ((k_here; (with_reducible show wpAny _ _ (call (Value.builtin "str.lower") [Value.str _ _]) _ _ _); k_dflt (refine' KXw.lower (by assumption) (by (exact low_fit (by assumption))) ?_; k_whole); intro t' k'))
  k_with "mine:moved" => (((rename Keep _ _ => kp9'); (with_reducible rename Fr _ _ _ _ => kF9); (with_reducible rename News _ _ _ _ => kN9); (replace kF9 := fr_keep kF9 kp9'); (replace kN9 := news_keep kN9 kp9'); (try dsimp only at kF9 kN9)))
  k_with "mine:movedN" => (((rename Keep _ _ => kp9'); (rename (Heap.get? _ _ = none) => hn9'); (rename (Heap.get? _ _ = some _) => hq9'); (with_reducible rename Fr _ _ _ _ => kF9); (with_reducible rename News _ _ _ _ => kN9); (replace kN9 := news_add kF9 (news_keep kN9 kp9') hn9' hq9'); (replace kF9 := fr_keep kF9 kp9'); (clear hn9' hq9'); (try dsimp only at kF9 kN9)))
  k_with "exec For Name Call cons nil" => ((k_here; (with_reducible show wpAny _ _ (exec (Stmt.For (Expr.Name _ _) (Expr.Call (Expr.Name (Str.ofString "range") _) _ _ _) _ [] _) _) _ _ _); (with_reducible rename Fr _ _ _ _ => kF9); k_dflt (refine' For_rangeF kF9 (by exact rfl) ?_; k_whole)))
  k_with "eval ListComp" => ((k_here; (with_reducible show wpAny _ _ (eval (Expr.ListComp _ _ _ _) _) _ _ _); k_dflt (refine' Comp_list (by exact rfl) (by exact rfl) (by decide) (by exact rfl) (by decide) ?_; k_whole)))
  k_with "eval Name" => ((k_here; k_dflt (refine' name_cell (by k_asm) (by with_unfolding_all exact rfl) (by exact rfl) (by decide) (by exact rfl) (by assumption) (by assumption) ?_; k_whole)))
  k_with "call builtin:len" => ((k_here; (with_reducible show wpAny _ _ (call (Value.builtin "len") [Value.ref _]) _ _ _); k_dflt (refine' lst_len (by k_asm) (by k_mem) (by assumption) (by first | assumption | omega) ?_; k_whole)))
  trivial
-- room for a contract at its place
-- a written text's lower case is named by a fact
-- behind a contract: the frame's and the ledger's facts at the new heap
-- behind a contract that made an object: its fact joins the ledger



set_option maxHeartbeats 4000000 in
theorem taken_ok (w : World) {p : Program} {loose : List Str} {mean : ExcName → Option Value} {mg mb : Str → Option Value} {env : Env} {outer : List Env} {A₀ : Around} {base h₀ : Heap} {L : Addr} {m : Str → Option Value} {s : Shared} {Q E : Value → Shared → Prop}
  (B : Below A₀ base outer h₀) (F : Fr h₀ L s.heap m) (X : (Mine.KK w.params).In h₀) (T : Top p loose mean mg mb h₀) (hf : env.frame = some L) (hke : env.scope.kind = .function)
  {lw : Addr} {nW : Nat} {vs : List Value} {ws : List Int} {port size : Int} {t1 t2 : Tok} (hlw : s.heap.get? lw = some (lstO vs nW)) (hi : IntsAre vs ws) (hw : ws.length ≤ 5) (hs0 : 5 ≤ size) (hs1 : size ≤ 6)
  (hw0 : ∀ a ∈ ws, 0 ≤ a ∧ a < size) (hp0 : 0 ≤ port) (hp1 : port < size)
  (hret : ∀ h' tk', Keep s.heap h' → Q (.bool (takenF ws port size)) { s with heap := h', toks := tk' }) :
  wpAny (model PySem.Challenge.rw_tl0048_01.prog w) (Ar 320 200 env outer) (call (.ref 307) [.ref lw, .int port t1, .int size t2]) Q E s := by
  revert X; k_fill; intro X
  refine wpAny_call ?_
  k_dflt (refine' base_cells (binds := [(Str.ofString "wishes", .ref lw), (Str.ofString "port", .int port t1), (Str.ofString "size", .int size t2)]) ?k1 ?k2 ?k3 ?k5 ?kA ?kF ?kK ?k6 ?k7 ?k8 ?k9 ?kB ?kD ?_ ?c2 ?c3 ?c4; (case kA => exact rfl); (case kF => assumption); (case kK => assumption); (case k1 => k_asm); (case k2 => k_asm); (case k3 => k_asm); (case k5 => k_asm); (case k6 => k_is); (case k7 => k_is); (case k8 => exact Nat.le_of_ble_eq_true rfl); (case k9 => first | exact BindsTo.of_eq rfl | exact binds_K (by k_in) rfl (by k_is) rfl rfl rfl); (case kB => exact rfl); (case kD => decide +kernel); (case c2 => exact rfl); (case c3 => exact rfl); (case c4 => exact rfl))
  intro L' h' tk' cells' F' N' Y' B' X' T'
  clear B F X T
  (try dsimp only at F')
  (try simp only [List.cons_append, List.nil_append] at N')
  change wpAny _ _ _ _ _ _
  k_fold
  obtain ⟨o1, o2, o3, rfl, d1, d2, d3⟩ := CellsAre.three Y'
  change o1.data = .cell none at d1
  change o2.data = .cell (some (.int size t2)) at d2
  change o3.data = .cell (some (.int port t1)) at d3
  clear Y'
  k_steps
  (rename IsRange _ _ _ _ _ _ _ _ => hr9)
  refine range_pack (fun m news i m₁ news₁ => m₁ = m ∧ (∃ o ov, o.data = .cell ov ∧ news₁ = [(L' + 1 + 1 + 1, o), (L' + 1 + 1, o2), (L' + 1, o3)]) ∧ ∀ j : Nat, j < i → ¬ (1 + (j : Int) ≤ (cntF ws port size (1 + (j : Int)) : Int))) hr9 (by decide) (by decide) (by omega) (by omega) (by k_asm) (by k_asm) ⟨rfl, ⟨_, _, d1, rfl⟩, fun j hj => absurd hj (Nat.not_lt_zero _)⟩ ?_ ?_
  · rintro i tv m₁ news₁ h₁ tk₁ I oI hi' ⟨rfl, ⟨o, ov, hov, rfl⟩, hno⟩ F₁ N₁ hI
    clear d1
    have hc1 := hI _ (.head _)
    have hc2 := hI _ (.tail _ (.head _))
    have hc3 := hI _ (.tail _ (.tail _ (.head _)))
    simp only [] at hc1 hc2 hc3
    replace hc1 := Nat.lt_or_gt_of_ne hc1
    replace hc2 := Nat.lt_or_gt_of_ne hc2
    replace hc3 := Nat.lt_or_gt_of_ne hc3
    k_steps
    (rename Fr _ _ _ _ => kF7); (rename News _ _ _ _ => kN7)
    rename (Obj.data _ = _) => d4
    have x1 := (kN7 _ (.tail _ (.head _))).1
    have x2 := (kN7 _ (.tail _ (.tail _ (.head _)))).1
    have x3 := (kN7 _ (.tail _ (.tail _ (.tail _ (.head _))))).1
    have hvl := ints_len hi
    refine ⟨lw, vs.toArray, rfl, ⟨_, kF7.keep _ _ hlw, rfl, _, rfl⟩, by rw [List.size_toArray, sizeLine_eq]; omega, go_name, fun i' ys news => news = [] ∧ IntsAre ys ((ws.take i').filter fun w => decide (Int.fmod (port - w) size < 1 + (i : Int))), ⟨rfl, .nil⟩, ?_, ?_⟩
    · rintro hb C D I2 oI2 i2 v ys nD news mC h₁ tk₁ E' kb hx' ⟨rfl, hst⟩ FC NC hne hID
      obtain ⟨wv, tw, hwv, rfl⟩ := ints_at hi (i := i2) (v := v) (by simpa using hx')
      obtain ⟨hw2, hw3⟩ := hw0 wv (List.mem_of_getElem? hwv)
      have y1 := kb _ _ x1
      have y2 := kb _ _ x2
      have y3 := kb _ _ x3
      clear kF7 kN7 x1 x2 x3
      refine name_assign FC NC rfl rfl fun h₂ F₂ N₂ => ?_
      clear FC NC
      k_steps
      any_goals (show CompEnd _ _ _ _ _ _ _ _ _; (rename Fr _ _ _ _ => kF8); (rename News _ _ _ _ => kN8); refine ⟨_, _, _, [], rfl, kF8, kN8, hne, rfl, ?_⟩; obtain ⟨hlt, rfl⟩ := List.getElem?_eq_some_iff.mp hwv; rw [List.take_succ_eq_append_getElem hlt, List.filter_append])
      any_goals (first | (rw [List.filter_cons_of_pos (by simp only [decide_eq_true_eq]; omega)]; exact IntsAre.append hst (.cons _ _ .nil)) | (rw [List.filter_cons_of_neg (by simp only [decide_eq_true_eq]; omega)]; simpa using hst))
      all_goals (first | exact [] | exact (0 : Nat) | exact (Str.ofString "") | exact Value.none | exact default)
    · rintro ys D nD news h9 tk9 ⟨rfl, hst⟩ kk hD hD' hnews
      have kF6 := fr_keep kF7 kk
      have kN6 := news_add kF7 (news_keep kN7 kk) hD hD'
      clear kF7 kN7 x1 x2 x3
      have hfl : ((ws.take vs.toArray.size).filter fun w => decide (Int.fmod (port - w) size < 1 + (i : Int))).length = cntF ws port size (1 + (i : Int)) := by rw [List.size_toArray, hvl, List.take_length]; rfl
      have hfz : ((ws.take vs.toArray.size).filter fun w => decide (Int.fmod (port - w) size < 1 + (i : Int))).length ≤ 16384 := by
        refine Nat.le_trans (List.length_filter_le _ _) ?_
        rw [List.length_take]
        omega
      k_steps
      · rename (_ ≤ _) => hge
        rw [hfl] at hge
        show Q (.bool true) _
        have e : takenF ws port size = true := by
          unfold takenF
          rw [List.any_eq_true]
          exact ⟨i, List.mem_range.mpr (by omega), by simpa using hge⟩
        rw [← e]
        exact hret _ _ kF6.keep
      · rename (¬ _ ≤ _) => hlt
        rw [hfl] at hlt
        (rename News _ _ _ _ => kN8)
        refine ⟨_, _, _, _, rfl, kF6, News.tail' kN8, ?_, ⟨rfl, ⟨_, _, by assumption, rfl⟩, fun j hj => ?_⟩⟩
        · intro p hp
          simp only [List.mem_cons, List.not_mem_nil, or_false] at hp
          rcases hp with rfl | rfl | rfl
          · exact fun e => hI (L' + 1 + 1 + 1, o) (.head _) e
          · exact hI _ (.tail _ (.head _))
          · exact hI _ (.tail _ (.tail _ (.head _)))
        · rcases Nat.lt_or_eq_of_le (Nat.le_of_lt_succ hj) with hj | rfl
          · exact hno j hj
          · exact hlt
  · rintro m₁ news₁ h₁ tk₁ ⟨rfl, ⟨o, ov, hov, rfl⟩, hno⟩ F₁ N₁
    k_steps
    have e : takenF ws port size = false := by
      unfold takenF
      rw [List.any_eq_false]
      intro j hj
      rw [List.mem_range] at hj
      have := hno j (by omega)
      simpa using this
    rw [← e]
    exact hret _ _ F₁.keep
theorem linesWent : True := by
  w_top off
  k_with_none
  k_with "getMethod ref" => ((k_here; (with_reducible show wpAny _ _ (getMethod (Value.ref _) (Str.ofString "search") _) _ _ _); k_dflt (refine' search_meth (by k_asm) (by k_asm) (by k_is) ?_; k_whole)))
  k_with "call builtin:re.Pattern.search" => ((k_here; k_dflt (first
  | (refine' search_name (by k_asm) (by k_asm) (by k_is) (by k_is) (by decide +kernel) (by assumption) (by assumption) ?_; k_whole)
  | (refine' search_val (by k_asm) (by k_asm) (by k_is) (by k_is) (by decide +kernel) (by assumption) (by assumption) ?_; k_whole))))
  k_with "mine:le" => (exact Nat.le_of_ble_eq_true rfl)
  k_with "call builtin:str.lower" => ((k_here; (with_reducible show wpAny _ _ (call (Value.builtin "str.lower") [Value.str _ _]) _ _ _); k_dflt (refine' KXw.lower (by assumption) (by (exact low_fit (by assumption))) ?_; k_whole); intro t' k'))
  k_with "mine:moved" => (((rename Keep _ _ => kp9'); (with_reducible rename Fr _ _ _ _ => kF9); (with_reducible rename News _ _ _ _ => kN9); (replace kF9 := fr_keep kF9 kp9'); (replace kN9 := news_keep kN9 kp9'); (try dsimp only at kF9 kN9)))
  k_with "mine:movedN" => (((rename Keep _ _ => kp9'); (rename (Heap.get? _ _ = none) => hn9'); (rename (Heap.get? _ _ = some _) => hq9'); (with_reducible rename Fr _ _ _ _ => kF9); (with_reducible rename News _ _ _ _ => kN9); (replace kN9 := news_add kF9 (news_keep kN9 kp9') hn9' hq9'); (replace kF9 := fr_keep kF9 kp9'); (clear hn9' hq9'); (try dsimp only at kF9 kN9)))
  k_with "exec For Name Call cons nil" => ((k_here; (with_reducible show wpAny _ _ (exec (Stmt.For (Expr.Name _ _) (Expr.Call (Expr.Name (Str.ofString "range") _) _ _ _) _ [] _) _) _ _ _); (with_reducible rename Fr _ _ _ _ => kF9); k_dflt (refine' For_rangeF kF9 (by exact rfl) ?_; k_whole)))
  k_with "mine:shape" => (repeat' (first | with_reducible exact ⟨_, rfl⟩ | with_reducible exact Sh.base rfl | with_reducible exact Ov.refl | refine Sh.put ?_ | refine Sh.skip (by decide) (by decide) ?_ | refine Sh.over (by decide) (by decide) ?_ | refine Ov.put (by decide) ?_ | refine Ov.over (by decide) ?_))
  trivial
-- room for a contract at its place
-- a written text's lower case is named by a fact
-- behind a contract: the frame's and the ledger's facts at the new heap
-- behind a contract that made an object: its fact joins the ledger

set_option maxHeartbeats 4000000 in
theorem went_ok (w : World) {p : Program} {loose : List Str} {mean : ExcName → Option Value} {mg mb : Str → Option Value} {env : Env} {outer : List Env} {A₀ : Around} {base h₀ : Heap} {L : Addr} {m : Str → Option Value} {s : Shared} {Q E : Value → Shared → Prop}
  (B : Below A₀ base outer h₀) (F : Fr h₀ L s.heap m) (X : (Mine.KK w.params).In h₀) (T : Top p loose mean mg mb h₀) (hf : env.frame = some L) (hke : env.scope.kind = .function)
  {lw ls : Addr} {nW nS : Nat} {vs us : List Value} {ws ss : List Int} {tab size : Int} {t1 t2 : Tok} (hlw : s.heap.get? lw = some (lstO vs nW)) (hi : IntsAre vs ws) (hls : s.heap.get? ls = some (lstO us nS)) (hj : IntsAre us ss) (hw : ws.length ≤ 5) (hss : ss.length = ws.length) (hs0 : 5 ≤ size) (hs1 : size ≤ 6)
  (ht0 : 1 ≤ tab) (ht1 : tab ≤ 7)
  (hret : ∀ h' tk' t', Keep s.heap h' → Q (.int (wentF ws ss tab size ws.length) t') { s with heap := h', toks := tk' }) :
  wpAny (model PySem.Challenge.rw_tl0048_01.prog w) (Ar 320 200 env outer) (call (.ref 314) [.ref lw, .ref ls, .int tab t1, .int size t2]) Q E s := by
  revert X; k_fill; intro X
  refine wpAny_call ?_
  k_dflt (refine' base_plain (binds := [(Str.ofString "wished", .ref lw), (Str.ofString "stand", .ref ls), (Str.ofString "tab", .int tab t1), (Str.ofString "size", .int size t2)]) ?k1 ?k2 ?k3 ?k5 ?kA ?kF ?kK ?k6 ?k7 ?k8 ?k9 ?kB ?_ ?c2 ?c3 ?c4 ?c5; (case kA => exact rfl); (case kF => assumption); (case kK => assumption); (case k1 => k_asm); (case k2 => k_asm); (case k3 => k_asm); (case k5 => k_asm); (case k6 => k_is); (case k7 => k_is); (case k8 => exact Nat.le_of_ble_eq_true rfl); (case k9 => first | exact BindsTo.of_eq rfl | exact binds_K (by k_in) rfl (by k_is) rfl rfl rfl); (case c5 => decide); (case kB => exact locs rfl); (case c2 => exact rfl); (case c3 => exact rfl); (case c4 => exact rfl))
  intro L' h' F' B' X' T'
  have N' : News s.heap L' h' [] := News.nil
  clear B F X T
  (try dsimp only [List.reverse, List.reverseAux] at F')
  change wpAny _ _ _ _ _ _
  k_fold
  have hl : s.heap.IsList lw vs.toArray := ⟨_, hlw, rfl, _, rfl⟩
  have hl2 : s.heap.IsList ls us.toArray := ⟨_, hls, rfl, _, rfl⟩
  k_steps
  (rename IsRange _ _ _ _ _ _ _ _ => hr9)
  refine range_pack (fun m news i m₁ news₁ => news₁ = news ∧ ∃ t, Sh (Str.ofString "onto") [Str.ofString "k", Str.ofString "far", Str.ofString "port"] m (.int (wentF ws ss tab size i) t) m₁) hr9 (by decide) (by decide) (by omega) (by omega) (by k_asm) (by k_asm) ?_ ?_ ?_
  · exact ⟨rfl, _, Sh.base rfl⟩
  · rintro i tv m₁ news₁ h₁ tk₁ I oI hi' ⟨rfl, ton, f, rfl⟩ F₁ N₁ hI
    have hik : (i : Int) < ws.length := by omega
    have hik2 : (i : Int) < ss.length := by omega
    (try dsimp only at F₁)
    rw [show (0 : Int) + (i : Int) = (i : Int) from Int.zero_add _]
    have hi0 : (0 : Int) ≤ (i : Int) := Int.natCast_nonneg i
    have hi5 : (i : Int) < 5 := by omega
    k_steps
    (rename IsRange _ _ _ _ _ _ _ _ => hr8); (rename Fr _ _ _ _ => kF7); (rename News _ _ _ _ => kN7)
    rw [Int.toNat_natCast] at hr8
    have hX0 : 0 ≤ (ss.getD i 0 - ws.getD i 0).fmod size := fmod_lo (by omega)
    have hX1 : (ss.getD i 0 - ws.getD i 0).fmod size < size := fmod_hi (by omega)
    refine range_pack (fun m news j m₁ news₁ => news₁ = news ∧ ∃ t, Sh (Str.ofString "onto") [Str.ofString "far", Str.ofString "port"] m (.int (wentF ws ss tab size i + wentIn (ws.getD i 0) size tab j) t) m₁) hr8 (by decide) (by decide) (by omega) (by omega) kF7 kN7 ⟨rfl, ton, Sh.val (by rw [show wentIn (ws.getD i 0) size tab 0 = 0 from rfl, Int.add_zero]) (Sh.base rfl)⟩ ?_ ?_
    · rintro j tv' m₁ news₁ h₁ tk₁ I' oI' hj' ⟨rfl, t', f', rfl⟩ F₂ N₂ hI2
      clear kF7 kN7
      (try dsimp only at F₂)
      k_steps
      all_goals ((rename Fr _ _ _ _ => kF8); (rename News _ _ _ _ => kN8); simp only [Int.toNat_natCast] at *)
      · refine' ⟨_, _, _, _, rfl, kF8, kN8, hI2, ⟨rfl, _, Sh.val (v := _) ?e ?h⟩⟩
        (case h => walk_at "mine:shape")
        (case e => refine int_eq ?_; rw [wentIn_succ, if_pos (by assumption)]; omega)
      · refine' ⟨_, _, _, _, rfl, kF8, kN8, hI2, ⟨rfl, _, Sh.val (v := _) ?e ?h⟩⟩
        (case h => walk_at "mine:shape")
        (case e => refine int_eq ?_; rw [wentIn_succ, if_neg (by assumption), if_pos (by assumption)]; omega)
      · refine' ⟨_, _, _, _, rfl, kF8, kN8, hI2, ⟨rfl, _, Sh.val (v := _) ?e ?h⟩⟩
        (case h => walk_at "mine:shape")
        (case e => refine int_eq ?_; rw [wentIn_succ, if_neg (by assumption), if_neg (by assumption)]; omega)
    · rintro m₁ news₁ h₁ tk₁ ⟨rfl, t', f', rfl⟩ F₂ N₂
      clear kF7 kN7
      (try dsimp only at F₂)
      k_steps
      (rename Fr _ _ _ _ => kF8); (rename News _ _ _ _ => kN8)
      refine' ⟨_, _, _, _, rfl, kF8, kN8, hI, ⟨rfl, _, Sh.val (v := _) ?e ?h⟩⟩
      (case h => walk_at "mine:shape")
      (case e => refine int_eq ?_; rw [wentF_succ, show ∀ z : Int, z + 1 - 1 = z from fun z => by omega])
  · rintro m₁ news₁ h₁ tk₁ ⟨rfl, ton, f, rfl⟩ F₁ N₁
    have hn : ((ws.length : Int) - 0).toNat = ws.length := by omega
    rw [hn] at F₁
    (try dsimp only at F₁)
    k_steps
    exact hret _ _ _ F₁.keep
theorem linesWit : True := by
  w_top off
  k_with_none
  k_with "getMethod ref" => ((k_here; (with_reducible show wpAny _ _ (getMethod (Value.ref _) (Str.ofString "search") _) _ _ _); k_dflt (refine' search_meth (by k_asm) (by k_asm) (by k_is) ?_; k_whole)))
  k_with "call builtin:re.Pattern.search" => ((k_here; k_dflt (first
  | (refine' search_name (by k_asm) (by k_asm) (by k_is) (by k_is) (by decide +kernel) (by assumption) (by assumption) ?_; k_whole)
  | (refine' search_val (by k_asm) (by k_asm) (by k_is) (by k_is) (by decide +kernel) (by assumption) (by assumption) ?_; k_whole))))
  k_with "mine:le" => (exact Nat.le_of_ble_eq_true rfl)
  k_with "call builtin:str.lower" => ((k_here; (with_reducible show wpAny _ _ (call (Value.builtin "str.lower") [Value.str _ _]) _ _ _); k_dflt (refine' KXw.lower (by assumption) (by (exact low_fit (by assumption))) ?_; k_whole); intro t' k'))
  k_with "mine:moved" => (((rename Keep _ _ => kp9'); (with_reducible rename Fr _ _ _ _ => kF9); (with_reducible rename News _ _ _ _ => kN9); (replace kF9 := fr_keep kF9 kp9'); (replace kN9 := news_keep kN9 kp9'); (try dsimp only at kF9 kN9)))
  k_with "mine:movedN" => (((rename Keep _ _ => kp9'); (rename (Heap.get? _ _ = none) => hn9'); (rename (Heap.get? _ _ = some _) => hq9'); (with_reducible rename Fr _ _ _ _ => kF9); (with_reducible rename News _ _ _ _ => kN9); (replace kN9 := news_add kF9 (news_keep kN9 kp9') hn9' hq9'); (replace kF9 := fr_keep kF9 kp9'); (clear hn9' hq9'); (try dsimp only at kF9 kN9)))
  k_with "call ref" => ((k_here; (with_reducible show wpAny _ _ (call (Value.ref 243) _ _) _ _ _); k_dflt (refine' at_le (by exact rfl) (by exact rfl) (by walk_at "mine:le") (by walk_at "mine:le") (longest_ok _ (by k_asm) (by k_asm) (by k_asm) (by k_asm) (by exact rfl) (by exact rfl) (by exact WsAt.keep (Fr.keep (by k_asm)) (by assumption)) (WsLow.l (by assumption)) (WsLow.b (by assumption)) ?_); k_whole); intro h9 tk9 t9 kp9; walk_at "mine:moved"))
  k_with "call ref" => ((k_here; (with_reducible show wpAny _ _ (call (Value.ref 250) _ _) _ _ _); k_dflt (refine' at_le (by exact rfl) (by exact rfl) (by walk_at "mine:le") (by walk_at "mine:le") (indent_ok _ (by k_asm) (by k_asm) (by k_asm) (by k_asm) (by exact rfl) (by exact rfl) (by exact WsAt.keep (Fr.keep (by k_asm)) (by assumption)) (by omega) (by omega) (WsLow.l (by assumption)) (WsLow.b (by assumption)) (WsLow.nt (by assumption)) (WsLow.c (by assumption)) ?_); k_whole); intro h9 tk9 t9 kp9; walk_at "mine:moved"))
  k_with "exec For Name Call cons nil" => ((k_here; (with_reducible show wpAny _ _ (exec (Stmt.For (Expr.Name _ _) (Expr.Call (Expr.Name (Str.ofString "range") _) _ _ _) _ [] _) _) _ _ _); (with_reducible rename Fr _ _ _ _ => kF9); k_dflt (refine' For_rangeF kF9 (by exact rfl) ?_; k_whole)))
  k_with "execs cons Assign cons" => ((k_here; walk_at "execs cons"))
  k_with "call builtin:list.append" => ((k_here; (with_reducible show wpAny _ _ (call (Value.builtin _) [Value.ref _, _]) _ _ _); k_dflt (refine' append_K (by k_asm) (by k_asm) (by exact Upd.tail (by k_ne) (Upd.tail (by k_ne) (Upd.head (by assumption)))) ?_ (by size_fits); k_whole); intro h' F' N'))
  trivial
-- room for a contract at its place
-- a written text's lower case is named by a fact
-- behind a contract: the frame's and the ledger's facts at the new heap
-- behind a contract that made an object: its fact joins the ledger

theorem over_put {x : Str} {v : Value} {names : List Str} {m m' : Str → Option Value} (h : names.contains x = true) (hf : ∃ f, m' = over names f m) : ∃ f, (fun y => if y = x then some v else m' y) = over names f m := by
  obtain ⟨f, rfl⟩ := hf
  refine over_of fun z hz => ?_
  have : z ≠ x := by
    rintro rfl
    rw [h] at hz
    cases hz
  simp only [if_neg this]
  exact over_off hz
theorem trip_pick {h₀ h : Heap} {L D la : Addr} {o : Obj} {g : Addr × Obj} {tups : List (Addr × Obj)} {n : Nat} (N : News h₀ L h ((D, o) :: g :: (la, listOf ((tups.map fun p => Value.ref p.1).toArray.push (.ref D)) n) :: tups)) :
    News h₀ L h (g :: (la, lstO ((tups ++ [(D, o)]).map fun p => Value.ref p.1) n) :: (tups ++ [(D, o)])) := fun p hp => by
  rcases List.mem_cons.mp hp with rfl | hp
  · exact N _ (.tail _ (.head _))
  rcases List.mem_cons.mp hp with rfl | hp
  · have := N _ (.tail _ (.tail _ (.head _)))
    simpa using this
  rcases List.mem_append.mp hp with hp | hp
  · exact N _ (.tail _ (.tail _ (.tail _ hp)))
  · rw [List.mem_singleton] at hp
    subst hp
    exact N _ (.head _)
theorem trip_ne {D la : Addr} {o : Obj} {tups : List (Addr × Obj)} (h : ∀ p ∈ tups, p.1 ≠ la) (hD : D ≠ la) : ∀ p ∈ tups ++ [(D, o)], p.1 ≠ la := fun p hp => by
  rcases List.mem_append.mp hp with hp | hp
  · exact h p hp
  · rw [List.mem_singleton] at hp
    subst hp
    exact hD
theorem trip_all {D la I : Addr} {o ol ol' : Obj} {tups : List (Addr × Obj)} (hD : I ≠ D) (h : ∀ p ∈ (la, ol) :: tups, p.1 ≠ I) (_ : D ≠ la) : ∀ p ∈ (la, ol') :: (tups ++ [(D, o)]), p.1 ≠ I := fun p hp => by
  rcases List.mem_cons.mp hp with rfl | hp
  · exact fun e => h (la, ol) (.head _) e
  · exact trip_ne (fun p hp => h p (.tail _ hp)) (fun e => hD e.symm) p hp
theorem max_if (a b : Int) : (if a > b then a else b) = max b a := by split <;> omega
set_option maxHeartbeats 4000000 in
theorem witness_ok (w : World) {p : Program} {loose : List Str} {mean : ExcName → Option Value} {mg mb : Str → Option Value} {env : Env} {outer : List Env} {A₀ : Around} {base h₀ : Heap} {L : Addr} {m : Str → Option Value} {s : Shared} {Q E : Value → Shared → Prop}
  (B : Below A₀ base outer h₀) (F : Fr h₀ L s.heap m) (X : (Mine.KK w.params).In h₀) (T : Top p loose mean mg mb h₀) (hf : env.frame = some L) (hke : env.scope.kind = .function)
  {x y : Addr} {st st' : WsSt} (hx : WsAt 281 w.params s.heap x st) (hy : WsAt 281 w.params s.heap y st') (hlx : WsLow st) (hly : WsLow st') (hlo : longF st ≤ 15) (hlo' : longF st' ≤ 15)
  (hret : ∀ a nL tups h' tk', Keep s.heap h' → (∀ p ∈ (a, lstO (tups.map fun p => Value.ref p.1) nL) :: tups, h'.get? p.1 = some p.2 ∧ s.heap.get? p.1 = none) → TripOf tups (witnessF st st') → Q (.ref a) { s with heap := h', toks := tk' }) :
  wpAny (model PySem.Challenge.rw_tl0048_01.prog w) (Ar 330 300 env outer) (call (.ref 264) [.ref x, .ref y]) Q E s := by
  revert X; k_fill; intro X
  refine wpAny_call ?_
  k_dflt (refine' base_plain (binds := [(Str.ofString "self", .ref x), (Str.ofString "other", .ref y)]) ?k1 ?k2 ?k3 ?k5 ?kA ?kF ?kK ?k6 ?k7 ?k8 ?k9 ?kB ?_ ?c2 ?c3 ?c4 ?c5; (case kA => exact rfl); (case kF => assumption); (case kK => assumption); (case k1 => k_asm); (case k2 => k_asm); (case k3 => k_asm); (case k5 => k_asm); (case k6 => k_is); (case k7 => k_is); (case k8 => exact Nat.le_of_ble_eq_true rfl); (case k9 => first | exact BindsTo.of_eq rfl | exact binds_K (by k_in) rfl (by k_is) rfl rfl rfl); (case c5 => decide); (case kB => exact locs rfl); (case c2 => exact rfl); (case c3 => exact rfl); (case c4 => exact rfl))
  intro L' h' F' B' X' T'
  have N' : News s.heap L' h' [] := News.nil
  clear B F X T
  (try dsimp only [List.reverse, List.reverseAux] at F')
  change wpAny _ _ _ _ _ _
  k_fold
  simp only [longF] at hlo hlo'
  have hx0 := hx
  have hy0 := hy
  obtain ⟨d, D1, D2, k1, k2, k3, k4, k5, tn, tt, tb, rv, sv, vs, H, hi⟩ := hx0
  obtain ⟨a1, a2, a3, a4⟩ := ws_facts H
  obtain ⟨d', D1', D2', k1', k2', k3', k4', k5', tn', tt', tb', rv', sv', vs', H', hi'⟩ := hy0
  obtain ⟨b1, b2, b3, b4⟩ := ws_facts H'
  k_steps
  (rename IsRange _ _ _ _ _ _ _ _ => hr9)
  simp only [max_if] at hr9
  refine range_pack (fun m news i m₁ news₁ => ∃ la nL tups, m (Str.ofString "a") = some (.ref la) ∧ news₁ = (la, lstO (tups.map fun p => Value.ref p.1) nL) :: tups ∧ TripOf tups (witF st st' i) ∧ (∀ p ∈ tups, p.1 ≠ la) ∧ ∃ f, m₁ = over [Str.ofString "ts"] f m) hr9 (by decide) (by decide) (by omega) (by omega) (by k_asm) (by k_asm) ⟨_, _, [], rfl, rfl, trivial, (fun _ h => by cases h), over_refl⟩ ?_ ?_
  · rintro i tv m₁ news₁ h₁ tk₁ I oI hi' ⟨la, nL, tups, hla, rfl, htr, hne, f, rfl⟩ F₁ N₁ hI
    simp only [if_true] at hla
    cases hla
    have hIl := hI _ (.head _)
    simp only [] at hIl
    have hIl3 := Nat.lt_or_gt_of_ne hIl
    have hi16 : i ≤ 20 := by omega
    have htl : (tups.map fun p => Value.ref p.1).length ≤ 1000 := by
      rw [List.length_map, htr.length]
      exact Nat.le_trans (witF_len st st' i) (by omega)
    (try dsimp only at F₁)
    k_steps
    · (rename Fr _ _ _ _ => kF7); (rename News _ _ _ _ => kN7)
      rename (_ ≠ _) => hlv
      refine ⟨_, _, _, _, rfl, kF7, trip_pick kN7, trip_all (Nat.ne_of_lt (by omega)) hI (Nat.ne_of_gt (by omega)), ⟨_, _, _, rfl, rfl, ?_, trip_ne hne (Nat.ne_of_gt (by omega)), ?_⟩⟩
      · rw [witF, if_neg hlv]
        exact TripOf.snoc htr
      · repeat' (first | exact ⟨_, rfl⟩ | refine over_put (by decide) ?_)
    · (rename Fr _ _ _ _ => kF7); (rename News _ _ _ _ => kN7)
      rename (_ = (levelF _ _ : Int)) => hlv
      refine ⟨_, _, _, _, rfl, kF7, kN7, hI, ⟨_, _, _, rfl, rfl, ?_, hne, ?_⟩⟩
      · rw [witF, if_pos hlv, List.append_nil]
        exact htr
      · repeat' (first | exact ⟨_, rfl⟩ | refine over_put (by decide) ?_)
  · rintro m₁ news₁ h₁ tk₁ ⟨la, nL, tups, hla, rfl, htr, hne, f, rfl⟩ F₁ N₁
    simp only [if_true] at hla
    cases hla
    (try dsimp only at F₁)
    k_steps
    refine hret _ _ _ _ _ F₁.keep (fun p hp => ⟨(N₁ p hp).1, (N₁ p hp).2.2⟩) ?_
    unfold witnessF
    simp only [longF]
    rw [show ∀ z : Int, z + 1 = z + 1 + 1 - 1 from fun z => by omega]
    exact htr
theorem linesItems : True := by
  w_top off
  k_with_none
  k_with "getMethod ref" => ((k_here; (with_reducible show wpAny _ _ (getMethod (Value.ref _) (Str.ofString "search") _) _ _ _); k_dflt (refine' search_meth (by k_asm) (by k_asm) (by k_is) ?_; k_whole)))
  k_with "call builtin:re.Pattern.search" => ((k_here; k_dflt (first
  | (refine' search_name (by k_asm) (by k_asm) (by k_is) (by k_is) (by decide +kernel) (by assumption) (by assumption) ?_; k_whole)
  | (refine' search_val (by k_asm) (by k_asm) (by k_is) (by k_is) (by decide +kernel) (by assumption) (by assumption) ?_; k_whole))))
  k_with "mine:le" => (exact Nat.le_of_ble_eq_true rfl)
  k_with "call builtin:str.lower" => ((k_here; (with_reducible show wpAny _ _ (call (Value.builtin "str.lower") [Value.str _ _]) _ _ _); k_dflt (refine' KXw.lower (by assumption) (by (exact low_fit (by assumption))) ?_; k_whole); intro t' k'))
  k_with "mine:moved" => (((rename Keep _ _ => kp9'); (with_reducible rename Fr _ _ _ _ => kF9); (with_reducible rename News _ _ _ _ => kN9); (replace kF9 := fr_keep kF9 kp9'); (replace kN9 := news_keep kN9 kp9'); (try dsimp only at kF9 kN9)))
  k_with "mine:movedN" => (((rename Keep _ _ => kp9'); (rename (Heap.get? _ _ = none) => hn9'); (rename (Heap.get? _ _ = some _) => hq9'); (with_reducible rename Fr _ _ _ _ => kF9); (with_reducible rename News _ _ _ _ => kN9); (replace kN9 := news_add kF9 (news_keep kN9 kp9') hn9' hq9'); (replace kF9 := fr_keep kF9 kp9'); (clear hn9' hq9'); (try dsimp only at kF9 kN9)))
  trivial
-- room for a contract at its place
-- a written text's lower case is named by a fact
-- behind a contract: the frame's and the ledger's facts at the new heap
-- behind a contract that made an object: its fact joins the ledger
set_option maxHeartbeats 4000000 in
theorem items_ok (w : World) {p : Program} {loose : List Str} {mean : ExcName → Option Value} {mg mb : Str → Option Value} {env : Env} {outer : List Env} {A₀ : Around} {base h₀ : Heap} {L : Addr} {m : Str → Option Value} {s : Shared} {Q E : Value → Shared → Prop}
  (B : Below A₀ base outer h₀) (F : Fr h₀ L s.heap m) (X : (Mine.KK w.params).In h₀) (T : Top p loose mean mg mb h₀) (hf : env.frame = some L) (hke : env.scope.kind = .function)
  {x d l : Addr} {tk0 : Tok} {nL : Nat} {items : List Value}
  (hx : s.heap.get? x = some (instObj 171 d)) (hd : s.heap.get? d = some (dictOf [{ hash := PyData.keyHash w.params (Str.ofString "_headers"), key := .str (Str.ofString "_headers") tk0, val := .ref l }] 1)) (hlst : s.heap.get? l = some (lstO items nL))
  (hil : items.length ≤ 1000)
  (hret : ∀ a n h' tk', Keep s.heap h' → s.heap.get? a = none → h'.get? a = some (lstO items n) → Q (.ref a) { s with heap := h', toks := tk' }) :
  wpAny (model PySem.Challenge.rw_tl0048_01.prog w) (Ar 340 400 env outer) (call (.ref 135) [.ref x]) Q E s := by
  revert X; k_fill; intro X
  refine wpAny_call ?_
  k_dflt (refine' base_plain (binds := [(Str.ofString "self", .ref x)]) ?k1 ?k2 ?k3 ?k5 ?kA ?kF ?kK ?k6 ?k7 ?k8 ?k9 ?kB ?_ ?c2 ?c3 ?c4 ?c5; (case kA => exact rfl); (case kF => assumption); (case kK => assumption); (case k1 => k_asm); (case k2 => k_asm); (case k3 => k_asm); (case k5 => k_asm); (case k6 => k_is); (case k7 => k_is); (case k8 => exact Nat.le_of_ble_eq_true rfl); (case k9 => first | exact BindsTo.of_eq rfl | exact binds_K (by k_in) rfl (by k_is) rfl rfl rfl); (case c5 => decide); (case kB => exact locs rfl); (case c2 => exact rfl); (case c3 => exact rfl); (case c4 => exact rfl))
  intro L' h' F' B' X' T'
  have N' : News s.heap L' h' [] := News.nil
  clear B F X T
  (try dsimp only [List.reverse, List.reverseAux] at F')
  change wpAny _ _ _ _ _ _
  k_fold
  have hl : s.heap.IsList l items.toArray := ⟨_, hlst, rfl, _, rfl⟩
  k_steps
  (rename Fr _ _ _ _ => kF7); (rename News _ _ _ _ => kN7)
  have g := kN7 _ (.head _)
  show Q (.ref _) _
  exact hret _ 0 _ _ kF7.keep g.2.2 (by have g1 := g.1; rw [slicePick_all] at g1; exact g1)
theorem linesTurnA : True := by
  w_top off
  k_with_none
  k_with "getMethod ref" => ((k_here; (with_reducible show wpAny _ _ (getMethod (Value.ref _) (Str.ofString "search") _) _ _ _); k_dflt (refine' search_meth (by k_asm) (by k_asm) (by k_is) ?_; k_whole)))
  k_with "call builtin:re.Pattern.search" => ((k_here; k_dflt (first
  | (refine' search_name (by k_asm) (by k_asm) (by k_is) (by k_is) (by decide +kernel) (by assumption) (by assumption) ?_; k_whole)
  | (refine' search_val (by k_asm) (by k_asm) (by k_is) (by k_is) (by decide +kernel) (by assumption) (by assumption) ?_; k_whole))))
  k_with "mine:le" => (exact Nat.le_of_ble_eq_true rfl)
  k_with "call builtin:str.lower" => ((k_here; (with_reducible show wpAny _ _ (call (Value.builtin "str.lower") [Value.str _ _]) _ _ _); k_dflt (refine' KXw.lower (by assumption) (by (exact low_fit (by assumption))) ?_; k_whole); intro t' k'))
  k_with "mine:moved" => (((rename Keep _ _ => kp9'); (with_reducible rename Fr _ _ _ _ => kF9); (with_reducible rename News _ _ _ _ => kN9); (replace kF9 := fr_keep kF9 kp9'); (replace kN9 := news_keep kN9 kp9'); (try dsimp only at kF9 kN9)))
  k_with "mine:movedN" => (((rename Keep _ _ => kp9'); (rename (Heap.get? _ _ = none) => hn9'); (rename (Heap.get? _ _ = some _) => hq9'); (with_reducible rename Fr _ _ _ _ => kF9); (with_reducible rename News _ _ _ _ => kN9); (replace kN9 := news_add kF9 (news_keep kN9 kp9') hn9' hq9'); (replace kF9 := fr_keep kF9 kp9'); (clear hn9' hq9'); (try dsimp only at kF9 kN9)))
  k_with "mine:one" => ((first | (k_unfold; (try dsimp only)) | (k_end; wrow_close) | walk1 | (dsimp only; walk1)))
  k_with "exec Assign cons ListComp" => ((k_here; (with_reducible show wpAny _ _ (exec (Stmt.Assign [Expr.Name _ _] (Expr.ListComp _ _ _ _) _) _) _ _ _); k_dflt (refine' Comp_assign (by exact rfl) (by with_unfolding_all rfl) (by with_unfolding_all rfl) (by decide) (by exact rfl) (by decide) ?_; k_whole)))
  k_with "eval ListComp" => ((k_here; (with_reducible show wpAny _ _ (eval (Expr.ListComp _ _ _ _) _) _ _ _); k_dflt (refine' Comp_list (by exact rfl) (by exact rfl) (by decide) (by exact rfl) (by decide) ?_; k_whole)))
  k_with "eval ListComp" => ((k_here; (with_reducible show wpAny _ _ (eval (Expr.ListComp _ [⟨Expr.Name _ _, Expr.Call (Expr.Name (Str.ofString "range") _) _ _ _, _, _⟩] _ _) _) _ _ _); k_dflt (refine' Comp_range (by exact rfl) (by exact rfl) (by decide) (by exact rfl) (by decide) ?_; k_whole)))
  k_with "eval Name" => ((k_here; k_dflt (refine' name_cell (by k_asm) (by with_unfolding_all exact rfl) (by exact rfl) (by decide) (by exact rfl) (by assumption) (by assumption) ?_; k_whole)))
  k_with "call builtin:len" => ((k_here; (with_reducible show wpAny _ _ (call (Value.builtin "len") [Value.ref _]) _ _ _); k_dflt (refine' lst_len (by k_asm) (by k_mem) (by assumption) (by first | assumption | omega) ?_; k_whole)))
  k_with "mine:shape" => (repeat' (first | with_reducible exact ⟨_, rfl⟩ | with_reducible exact Sh.base rfl | with_reducible exact Ov.refl | refine Sh.put ?_ | refine Sh.skip (by decide) (by decide) ?_ | refine Sh.over (by decide) (by decide) ?_ | refine Ov.put (by decide) ?_ | refine Ov.over (by decide) ?_))
  k_with "mine:ne1" => (first | k_ne | exact ne_cell (by k_asm) (by k_mem) (by k_mem) (by assumption) rfl | exact ne_cell (by k_asm) (by k_mem) (by k_mem) (by assumption) (by assumption))
  k_with "mine:allne" => (first | exact List.forall_mem_nil _ | assumption | (refine' List.forall_mem_cons.mpr ⟨(by walk_at "mine:ne1"), (by walk_at "mine:allne")⟩) | exact trips_ne (by k_asm) (fun p hp => by repeat (first | exact hp | apply List.mem_cons_of_mem)) (by k_mem) (by assumption) (by assumption) | exact tups_ne (by k_asm) (fun p hp => by repeat (first | exact hp | apply List.mem_cons_of_mem)) (by k_mem) (by assumption) (by assumption))
  k_with "mine:upd" => (first | (refine' UpdF.head (by walk_at "mine:allne")) | (refine' UpdF.tail (by walk_at "mine:ne1") (by walk_at "mine:upd")))
  k_with "storeName" => ((k_here; (with_reducible show wpAny _ _ (storeName _ _ _) _ _ _); k_dflt (refine' storeX_C (by k_asm) (by k_asm) (by exact rfl) (by walk_at "mine:upd") (by assumption) ?_ (by exact rfl) (by with_unfolding_all exact rfl); k_whole); intro h' o' F' N' d'))
  k_with "call ref" => ((k_here; (with_reducible show wpAny _ _ (call (Value.ref 292) _ _) _ _ _); k_dflt (refine' at_le (by exact rfl) (by exact rfl) (by walk_at "mine:le") (by walk_at "mine:le") (seek_ok _ (by k_asm) (by k_asm) (by k_asm) (by k_asm) (by exact rfl) (by exact rfl) (by exact (News.get (by k_asm) (by k_mem))) (by assumption) (by omega) (by assumption) (by assumption) (by omega) (by assumption) (by omega) (by omega) ?_); k_whole); intro x9 d9 l9 tk09 nL9 tups9 h9 tk9 kp9 hw9 ht9; (with_reducible rename Fr _ _ _ _ => kF9); (with_reducible rename News _ _ _ _ => kN9); (replace kN9 := news_addsR kF9 (news_keep kN9 kp9) hw9); (replace kF9 := fr_keep kF9 kp9); (clear hw9); (try dsimp only [List.cons_append, List.nil_append] at kF9 kN9)))
  k_with "call ref" => ((k_here; (with_reducible show wpAny _ _ (call (Value.ref 135) _ _) _ _ _); k_dflt (refine' at_le (by exact rfl) (by exact rfl) (by walk_at "mine:le") (by walk_at "mine:le") (items_ok _ (by k_asm) (by k_asm) (by k_asm) (by k_asm) (by exact rfl) (by exact rfl) (by exact (News.get (by k_asm) (by k_mem))) (by exact (News.get (by k_asm) (by k_mem))) (by exact (News.get (by k_asm) (by k_mem))) (by assumption) ?_); k_whole); intro q9 n9 h9 tk9 kp9 hn9 hq9; walk_at "mine:movedN"))
  trivial
-- room for a contract at its place
-- a written text's lower case is named by a fact
-- behind a contract: the frame's and the ledger's facts at the new heap
-- behind a contract that made an object: its fact joins the ledger


set_option maxHeartbeats 8000000 in
theorem turnA_ok (w : World) {p : Program} {loose : List Str} {mean : ExcName → Option Value} {mg mb : Str → Option Value} {A₀ : Around} {base h₀ : Heap} {L fa ls lp lw xs : Addr} {cdv : Value} {s : Shared} {Q : Flow → Shared → Prop} {f : Str → Option Value}
  (B : Below A₀ base [] h₀) (F : Fr h₀ L s.heap (over tnF f (m0F xs lp lw ls))) (X : (Mine.KK w.params).In h₀) (T : Top p loose mean mg mb h₀)
  {I : Addr} {oI : Obj} {e1 e2 e3 e4 : Addr × Obj} {nP nW : Nat} {pv wv : List Value} {o1 o2 o3 o4 o5 : Obj}
  (N : News h₀ L s.heap ((I, oI) :: e1 :: e2 :: e3 :: e4 :: (lp, lstO pv nP) :: (lw, lstO wv nW) :: (L + 1 + 1 + 1 + 1 + 1, o5) :: (L + 1 + 1 + 1 + 1, o4) :: (L + 1 + 1 + 1, o3) :: (L + 1 + 1, o2) :: (L + 1, o1) :: []))
  (f1 : cellFree e1.2 = true) (f2 : cellFree e2.2 = true) (f3 : cellFree e3.2 = true) (f4 : cellFree e4.2 = true)
  (i5 : I ≠ L + 1 + 1 + 1 + 1 + 1) (i4 : I ≠ L + 1 + 1 + 1 + 1) (i3 : I ≠ L + 1 + 1 + 1) (i2 : I ≠ L + 1 + 1) (i1 : I ≠ L + 1)
  {sz turn : Int} {t1 t2 : Tok} {v3 v4 v5 : Option Value} (d1 : o1.data = .cell (some (.int sz t1))) (d2 : o2.data = .cell (some (.int turn t2))) (d3 : o3.data = .cell v3) (d4 : o4.data = .cell v4) (d5 : o5.data = .cell v5)
  {ws ps : List Int} (hwv : IntsAre wv ws) (hpv : IntsAre pv ps) (hs0 : 5 ≤ sz) (hs1 : sz ≤ 6) (hwl : (ws.length : Int) = sz - 1) (hpl : ps.length = ws.length) (hw0 : ∀ a ∈ ws, 0 ≤ a ∧ a < sz) (hp0 : ∀ a ∈ ps, 0 ≤ a ∧ a < sz) (ht0 : 0 ≤ turn) (ht1 : turn < sz)
  (hlaw : standsF turn sz ws ws.length = ps.map fun p => Int.fmod (p + turn) sz)
  (hret : ∀ h' tk' f' ld sv nS xt dt lt tk0 nL tups o3', Fr h₀ L h' (fun y => if y = Str.ofString "table" then some (.ref xt) else over tnF f' (m0F xs lp lw ls) y) →
    News h₀ L h' ((I, oI) :: e1 :: e2 :: e3 :: e4 :: (lp, lstO pv nP) :: (lw, lstO wv nW) :: (L + 1 + 1 + 1 + 1 + 1, o5) :: (L + 1 + 1 + 1 + 1, o4) :: (L + 1 + 1 + 1, o3') :: (L + 1 + 1, o2) :: (L + 1, o1) :: (ld, lstO sv nS) :: tabL 171 w.params xt dt lt tk0 nL tups) →
    o3'.data = .cell (some (.ref ld)) → IntsAre sv (ps.map fun p => Int.fmod (p + turn) sz) → TupsOf tups (entF turn sz ws ws.length) →
    wpAny (model PySem.Challenge.rw_tl0048_01.prog w) (Ar 310 100 (envOfC (Str.ofString "law") (lawX w.params).1.2 L fa cdv) []) (execs ((turnX w.params).1.drop 3) (envOfC (Str.ofString "law") (lawX w.params).1.2 L fa cdv)) Q (fun _ _ => False) { s with heap := h', toks := tk' }) :
  wpAny (model PySem.Challenge.rw_tl0048_01.prog w) (Ar 310 100 (envOfC (Str.ofString "law") (lawX w.params).1.2 L fa cdv) []) (execs (turnX w.params).1 (envOfC (Str.ofString "law") (lawX w.params).1.2 L fa cdv)) Q (fun _ _ => False) s := by
  replace i1 := Nat.lt_or_gt_of_ne i1
  replace i2 := Nat.lt_or_gt_of_ne i2
  replace i3 := Nat.lt_or_gt_of_ne i3
  replace i4 := Nat.lt_or_gt_of_ne i4
  replace i5 := Nat.lt_or_gt_of_ne i5
  revert X; k_fill; intro X
  dsimp only [lawX, turnX, List.drop] at hret ⊢
  iterate 15 (walk_at "mine:one")
  k_steps
  (rename Fr _ _ _ _ => kF7); (rename News _ _ _ _ => kN7)
  have x1 := (kN7 _ (by k_mem : (L + 1, o1) ∈ _)).1
  have x2 := (kN7 _ (by k_mem : (L + 1 + 1, o2) ∈ _)).1
  refine ⟨_, _, rfl, News.isList kN7 (by k_mem : (lp, lstO pv nP) ∈ _), by rw [List.size_toArray, ints_len hpv, sizeLine_eq]; omega, go_name, fun i ys news => news = [] ∧ IntsAre ys ((ps.take i).map fun p => Int.fmod (p + turn) sz), ⟨rfl, .nil⟩, ?_, ?_⟩
  · rintro hb C D I2 oI2 i2 v ys nD news mC h₁ tk₁ E' kb hx' ⟨rfl, hst⟩ FC NC hne hID
    obtain ⟨wv, tw, hwv', rfl⟩ := ints_at hpv (i := i2) (v := v) (by simpa using hx')
    obtain ⟨hw2, hw3⟩ := hp0 wv (List.mem_of_getElem? hwv')
    have y1 := kb _ _ x1
    have y2 := kb _ _ x2
    clear kF7 kN7 x1 x2
    refine name_assign FC NC rfl rfl fun h₂ F₂ N₂ => ?_
    clear FC NC
    k_steps
    any_goals (show CompEnd _ _ _ _ _ _ _ _ _; (rename Fr _ _ _ _ => kF8); (rename News _ _ _ _ => kN8); refine ⟨_, _, _, [], rfl, kF8, kN8, hne, rfl, ?_⟩; obtain ⟨hlt, rfl⟩ := List.getElem?_eq_some_iff.mp hwv'; rw [List.take_succ_eq_append_getElem hlt, List.map_append]; exact IntsAre.append hst (.cons _ _ .nil))
    all_goals (first | exact [] | exact (0 : Nat) | exact (Str.ofString "") | exact Value.none | exact default)
  · rintro ys D nD news h9 tk9 ⟨rfl, hst⟩ kk hD hD' hnews
    have kF6 := fr_keep kF7 kk
    have kN6 := news_add kF7 (news_keep kN7 kk) hD hD'
    have hDc : D ≠ L + 1 + 1 + 1 := fun e => by
      have := (kN7 _ (by k_mem : (L + 1 + 1 + 1, o3) ∈ _)).1
      rw [← e, hD] at this
      cases this
    replace hDc := Nat.lt_or_gt_of_ne hDc
    (rename TupsOf _ _ => hT)
    have hil := tupsOf_short hT (by rw [ent_len (Nat.le_refl _)]; omega)
    rw [List.size_toArray, ints_len hpv, List.take_length] at hst
    clear kF7 kN7 x1 x2 hnews hD hD' kk
    k_steps
    (rename Fr _ _ _ _ => kF7); (rename News _ _ _ _ => kN7); (rename (Obj.data _ = Data.cell (some (Value.ref _))) => d3')
    (rename IsRange _ _ _ _ _ _ _ _ => hr9)
    have x3 := (kN7 _ (by k_mem : (L + 1 + 1 + 1, _) ∈ _)).1
    have x4 := (kN7 _ (by k_mem : (D, lstO ys nD) ∈ _)).1
    have hsr : ∀ a ∈ ps.map (fun p => Int.fmod (p + turn) sz), 0 ≤ a ∧ a < 6 := fun a ha => by
      obtain ⟨b, _, rfl⟩ := List.mem_map.mp ha
      have h1 := fmod_lo (a := b + turn) (b := sz) (by omega)
      have h2 := fmod_hi (a := b + turn) (b := sz) (by omega)
      omega
    generalize hss : (ps.map fun p => Int.fmod (p + turn) sz) = ss at *
    have hsl : (ss.length : Int) = sz - 1 := by rw [← hss, List.length_map]; omega
    refine ⟨_, _, _, _, _, _, rfl, hr9, ⟨by decide, by decide, by omega, by omega⟩, by rw [sizeLine_eq]; omega, fun i ys news => ys = news.map (fun p => Value.ref p.1) ∧ TupsOf news (nameF (ss.take i)), ⟨rfl, trivial⟩, ?_, ?_⟩
    · rintro hb C D2 I2 oI2 i2 tv zs nD2 news mC h₁ tk₁ E' kb hi2 ⟨rfl, hst2⟩ FC NC hne hID
      have y3 := kb _ _ x3
      have hl2 : hb.IsList D ys.toArray := ⟨_, kb _ _ x4, rfl, _, rfl⟩
      have Xb : (Mine.KK w.params).In hb := Frag.In.keeps (by k_asm) (Keep.trans kF7.keep kb)
      have Tb : Top p loose mean mg mb hb := Top.keeps (by k_asm) (Keep.trans kF7.keep kb)
      rw [show (0 : Int) + (i2 : Int) = (i2 : Int) from Int.zero_add _]
      have hik : (i2 : Int) < ss.length := by omega
      have hi0 : (0 : Int) ≤ (i2 : Int) := Int.natCast_nonneg i2
      have hi5 : (i2 : Int) < 5 := by omega
      obtain ⟨hq0, hq1⟩ := hsr (ss.getD ((i2 : Int)).toNat 0) (by rw [Int.toNat_natCast, List.getD_eq_getElem?_getD, List.getElem?_eq_getElem (by omega)]; exact List.getElem_mem _)
      clear kF7 kN7 x3 x4
      refine name_assign FC NC rfl rfl fun h₂ F₂ N₂ => ?_
      clear FC NC
      k_steps
      any_goals (show CompEnd _ _ _ _ _ _ _ _ _; (rename Fr _ _ _ _ => kF8); (rename News _ _ _ _ => kN8); (rename (_ ∧ _ ∧ AllLt _ _) => l8); refine tup_end kF8 kN8 l8 hne ⟨by rw [List.map_append]; rfl, ?_⟩; rw [nameF_take hik]; exact TupsOf.snoc hst2)
      all_goals (first | exact [] | exact (0 : Nat) | exact (Str.ofString "") | exact Value.none | exact default)
    · rintro zs D2 nD2 news h' tk C mC ⟨rfl, hst2⟩ kk hD2 hD2' hnews hC hCD hns
      refine none_done kk hD2 hD2' hnews hC hCD hns fun h3 kk3 hw3 => ?_
      have kF6 := fr_keep kF7 kk3
      have kN6 := news_keep kN7 kk3
      have kN5 := news_adds kF7 kN6 hw3
      rw [show (sz - 1 - 0).toNat = ss.length from by omega, List.take_length] at hst2
      have hT2 := hT
      rw [ent_nameF, hlaw] at hT2
      show wpAny _ _ (compareOp _ _ _) _ _ _
      refine tups_same (News.get kN6 (.head _)) (News.get kN5 (.head _)) (TupsOf.tups hT2 (News.of_mem kN6 (fun p hp => by repeat (first | exact hp | apply List.mem_cons_of_mem)))) (TupsOf.tups hst2 (News.of_mem kN5 (fun p hp => List.mem_append_left _ (List.mem_cons_of_mem _ hp)))) (name_ok (by omega) hsr) (Nat.le_of_ble_eq_true rfl) ?_
      clear kF7 kN7 kN5 hnews hw3
      iterate 3 (walk_at "mine:one")
      exact hret _ _ f D ys nD _ _ _ _ _ _ _ kF6 (pack_A kN6) d3' hst hT
theorem linesTurnB : True := by
  w_top off
  k_with_none
  k_with "getMethod ref" => ((k_here; (with_reducible show wpAny _ _ (getMethod (Value.ref _) (Str.ofString "search") _) _ _ _); k_dflt (refine' search_meth (by k_asm) (by k_asm) (by k_is) ?_; k_whole)))
  k_with "call builtin:re.Pattern.search" => ((k_here; k_dflt (first
  | (refine' search_name (by k_asm) (by k_asm) (by k_is) (by k_is) (by decide +kernel) (by assumption) (by assumption) ?_; k_whole)
  | (refine' search_val (by k_asm) (by k_asm) (by k_is) (by k_is) (by decide +kernel) (by assumption) (by assumption) ?_; k_whole))))
  k_with "mine:le" => (exact Nat.le_of_ble_eq_true rfl)
  k_with "call builtin:str.lower" => ((k_here; (with_reducible show wpAny _ _ (call (Value.builtin "str.lower") [Value.str _ _]) _ _ _); k_dflt (refine' KXw.lower (by assumption) (by (exact low_fit (by assumption))) ?_; k_whole); intro t' k'))
  k_with "mine:moved" => (((rename Keep _ _ => kp9'); (with_reducible rename Fr _ _ _ _ => kF9); (with_reducible rename News _ _ _ _ => kN9); (replace kF9 := fr_keep kF9 kp9'); (replace kN9 := news_keep kN9 kp9'); (try dsimp only at kF9 kN9)))
  k_with "mine:movedN" => (((rename Keep _ _ => kp9'); (rename (Heap.get? _ _ = none) => hn9'); (rename (Heap.get? _ _ = some _) => hq9'); (with_reducible rename Fr _ _ _ _ => kF9); (with_reducible rename News _ _ _ _ => kN9); (replace kN9 := news_add kF9 (news_keep kN9 kp9') hn9' hq9'); (replace kF9 := fr_keep kF9 kp9'); (clear hn9' hq9'); (try dsimp only at kF9 kN9)))
  k_with "mine:one" => ((first | (k_unfold; (try dsimp only)) | (k_end; wrow_close) | walk1 | (dsimp only; walk1)))
  k_with "exec Assign cons ListComp" => ((k_here; (with_reducible show wpAny _ _ (exec (Stmt.Assign [Expr.Name _ _] (Expr.ListComp _ _ _ _) _) _) _ _ _); k_dflt (refine' Comp_assign (by exact rfl) (by with_unfolding_all rfl) (by with_unfolding_all rfl) (by decide) (by exact rfl) (by decide) ?_; k_whole)))
  k_with "eval ListComp" => ((k_here; (with_reducible show wpAny _ _ (eval (Expr.ListComp _ _ _ _) _) _ _ _); k_dflt (refine' Comp_list (by exact rfl) (by exact rfl) (by decide) (by exact rfl) (by decide) ?_; k_whole)))
  k_with "eval ListComp" => ((k_here; (with_reducible show wpAny _ _ (eval (Expr.ListComp _ [⟨Expr.Name _ _, Expr.Call (Expr.Name (Str.ofString "range") _) _ _ _, _, _⟩] _ _) _) _ _ _); k_dflt (refine' Comp_range (by exact rfl) (by exact rfl) (by decide) (by exact rfl) (by decide) ?_; k_whole)))
  k_with "eval Name" => ((k_here; k_dflt (refine' name_cell (by k_asm) (by with_unfolding_all exact rfl) (by exact rfl) (by decide) (by exact rfl) (by assumption) (by assumption) ?_; k_whole)))
  k_with "call builtin:len" => ((k_here; (with_reducible show wpAny _ _ (call (Value.builtin "len") [Value.ref _]) _ _ _); k_dflt (refine' lst_len (by k_asm) (by k_mem) (by assumption) (by first | assumption | omega) ?_; k_whole)))
  k_with "mine:shape" => (repeat' (first | with_reducible exact ⟨_, rfl⟩ | with_reducible exact Sh.base rfl | with_reducible exact Ov.refl | refine Sh.put ?_ | refine Sh.skip (by decide) (by decide) ?_ | refine Sh.over (by decide) (by decide) ?_ | refine Ov.put (by decide) ?_ | refine Ov.over (by decide) ?_))
  k_with "mine:ne1" => (first | k_ne | exact ne_cell (by k_asm) (by k_mem) (by k_mem) (by assumption) rfl | exact ne_cell (by k_asm) (by k_mem) (by k_mem) (by assumption) (by assumption))
  k_with "mine:allne" => (first | exact List.forall_mem_nil _ | assumption | (refine' List.forall_mem_cons.mpr ⟨(by walk_at "mine:ne1"), (by walk_at "mine:allne")⟩) | exact trips_ne (by k_asm) (fun p hp => by repeat (first | exact hp | apply List.mem_cons_of_mem)) (by k_mem) (by assumption) (by assumption) | exact tups_ne (by k_asm) (fun p hp => by repeat (first | exact hp | apply List.mem_cons_of_mem)) (by k_mem) (by assumption) (by assumption))
  k_with "mine:upd" => (first | (refine' UpdF.head (by walk_at "mine:allne")) | (refine' UpdF.tail (by walk_at "mine:ne1") (by walk_at "mine:upd")))
  k_with "storeName" => ((k_here; (with_reducible show wpAny _ _ (storeName _ _ _) _ _ _); k_dflt (refine' storeX_C (by k_asm) (by k_asm) (by exact rfl) (by walk_at "mine:upd") (by assumption) ?_ (by exact rfl) (by with_unfolding_all exact rfl); k_whole); intro h' o' F' N' d'))
  k_with "call ref" => ((k_here; (with_reducible show wpAny _ _ (call (Value.ref 302) _ _) _ _ _); k_dflt (refine' at_le (by exact rfl) (by exact rfl) (by walk_at "mine:le") (by walk_at "mine:le") (held_ok _ (by k_asm) (by k_asm) (by k_asm) (by k_asm) (by exact rfl) (by exact rfl) (by exact (News.get (by k_asm) (by k_mem))) (by exact (News.get (by k_asm) (by k_mem))) (by exact (News.get (by k_asm) (by k_mem))) (by exact TupsOf.tups (by assumption) (News.of_mem (by k_asm) (fun p hp => by repeat (first | exact hp | apply List.mem_cons_of_mem)))) (by assumption) (by assumption) (by omega) ?_); k_whole); intro x9 d9 D19 D29 k19 k29 k39 k49 k59 tn9 tt9 tb9 rv9 sv9 vs9 h9 tk9 kp9 hw9 hi9; (with_reducible rename Fr _ _ _ _ => kF9); (with_reducible rename News _ _ _ _ => kN9); (replace kN9 := news_adds kF9 (news_keep kN9 kp9) hw9); (replace kF9 := fr_keep kF9 kp9); (have hp9 := WsP.of' hw9 hi9); (clear hw9); (try dsimp only [wsL, List.cons_append, List.nil_append] at kF9 kN9)))
  k_with "mine:allmem" => (first | exact List.forall_mem_nil _ | (refine' List.forall_mem_cons.mpr ⟨(by k_mem), (by walk_at "mine:allmem")⟩))
  k_with "call ref" => ((k_here; (with_reducible show wpAny _ _ (call (Value.ref 257) _ _) _ _ _); k_dflt (refine' at_le (by exact rfl) (by exact rfl) (by walk_at "mine:le") (by walk_at "mine:le") (equal_ok _ (by k_asm) (by k_asm) (by k_asm) (by k_asm) (by exact rfl) (by exact rfl) (WsP.at (by assumption) (by k_asm) (by walk_at "mine:allmem")) (WsP.at (by assumption) (by k_asm) (by walk_at "mine:allmem")) ?_); k_whole); intro h9 tk9 kp9; walk_at "mine:moved"))
  k_with "compareOp Eq ref ref" => ((k_here; k_dflt (refine' ke_eq_ints (by exact News.isList (by k_asm) (by k_mem)) (by exact News.isList (by k_asm) (by k_mem)) (by assumption) (by first | assumption | exact IntsAre.nil) (by ke_room) ?_; k_whole)))
  trivial
-- room for a contract at its place
-- a written text's lower case is named by a fact
-- behind a contract: the frame's and the ledger's facts at the new heap
-- behind a contract that made an object: its fact joins the ledger


set_option maxHeartbeats 8000000 in
theorem turnB_ok (w : World) {p : Program} {loose : List Str} {mean : ExcName → Option Value} {mg mb : Str → Option Value} {A₀ : Around} {base h₀ : Heap} {L fa ls lp lw xs xt dt lt ld : Addr} {cdv : Value} {s : Shared} {Q : Flow → Shared → Prop} {f : Str → Option Value}
  (B : Below A₀ base [] h₀) (F : Fr h₀ L s.heap (fun y => if y = Str.ofString "table" then some (.ref xt) else over tnF f (m0F xs lp lw ls) y)) (X : (Mine.KK w.params).In h₀) (T : Top p loose mean mg mb h₀)
  {I : Addr} {oI : Obj} {e1 e2 e3 e4 : Addr × Obj} {nP nW nS nL : Nat} {tk0 : Tok} {pv wv sv : List Value} {o1 o2 o3 o4 o5 : Obj} {tups : List (Addr × Obj)}
  (N : News h₀ L s.heap ((I, oI) :: e1 :: e2 :: e3 :: e4 :: (lp, lstO pv nP) :: (lw, lstO wv nW) :: (L + 1 + 1 + 1 + 1 + 1, o5) :: (L + 1 + 1 + 1 + 1, o4) :: (L + 1 + 1 + 1, o3) :: (L + 1 + 1, o2) :: (L + 1, o1) :: (ld, lstO sv nS) :: tabL 171 w.params xt dt lt tk0 nL tups))
  (f1 : cellFree e1.2 = true) (f2 : cellFree e2.2 = true) (f3 : cellFree e3.2 = true) (f4 : cellFree e4.2 = true)
  (i5 : I ≠ L + 1 + 1 + 1 + 1 + 1) (i4 : I ≠ L + 1 + 1 + 1 + 1) (i3 : I ≠ L + 1 + 1 + 1) (i2 : I ≠ L + 1 + 1) (i1 : I ≠ L + 1)
  {sz turn : Int} {t1 t2 : Tok} {v4 v5 : Option Value} (d1 : o1.data = .cell (some (.int sz t1))) (d2 : o2.data = .cell (some (.int turn t2))) (d3 : o3.data = .cell (some (.ref ld))) (d4 : o4.data = .cell v4) (d5 : o5.data = .cell v5)
  {ws ss : List Int} {st0 : WsSt} (hwv : IntsAre wv ws) (hsv : IntsAre sv ss) (hs0 : 5 ≤ sz) (hs1 : sz ≤ 6) (hwl : (ws.length : Int) = sz - 1) (hsl : ss.length = ws.length) (hw0 : ∀ a ∈ ws, 0 ≤ a ∧ a < sz) (hss : ∀ a ∈ ss, 0 ≤ a ∧ a < 6) (ht0 : 0 ≤ turn) (ht1 : turn < sz)
  (hT : TupsOf tups (nameF ss)) (hws : WsP 281 w.params [e1, e2, e3, e4] xs st0)
  (hlaw : ∀ os : List Int, os.Perm (ws.map fun a => Int.fmod (a + turn) sz) → os.Pairwise (· ≤ ·) → decide ((wsFold (codesF ss)).cs = st0.cs ∧ (wsFold (codesF ss)).b = st0.b) = decide (overF os ws.length = []))
  (hret : ∀ h' tk' xh dh q1 q2 q3 q4 q5 r1 r2 r3 r4 r5 (g3 g4 : Addr × Obj) lo ov nO ldw dv nDw o4' os, Fr h₀ L h' (fun y => if y = Str.ofString "held" then some (.ref xh) else if y = Str.ofString "wished" then some (.ref ldw) else if y = Str.ofString "table" then some (.ref xt) else over tnF f (m0F xs lp lw ls) y) →
    News h₀ L h' ((I, oI) :: e1 :: e2 :: e3 :: e4 :: (lp, lstO pv nP) :: (lw, lstO wv nW) :: (L + 1 + 1 + 1 + 1 + 1, o5) :: (L + 1 + 1 + 1 + 1, o4') :: (L + 1 + 1 + 1, o3) :: (L + 1 + 1, o2) :: (L + 1, o1) :: (ld, lstO sv nS) :: (xh, instObj 281 dh) :: (dh, wsDict w.params q1 q2 q3 q4 q5 r1 r2 r3 r4 r5) :: g3 :: g4 :: (ldw, lstO dv nDw) :: (lo, lstO ov nO) :: []) →
    cellFree g3.2 = true → cellFree g4.2 = true → WsP 281 w.params [(xh, instObj 281 dh), (dh, wsDict w.params q1 q2 q3 q4 q5 r1 r2 r3 r4 r5), g3, g4] xh (wsFold (codesF ss)) → o4'.data = .cell (some (.ref lo)) → IntsAre ov os → os.Perm (ws.map fun a => Int.fmod (a + turn) sz) → os.Pairwise (· ≤ ·) → IntsAre dv (ws.map fun a => Int.fmod (a + turn) sz) →
    wpAny (model PySem.Challenge.rw_tl0048_01.prog w) (Ar 310 100 (envOfC (Str.ofString "law") (lawX w.params).1.2 L fa cdv) []) (execs ((turnX w.params).1.drop 7) (envOfC (Str.ofString "law") (lawX w.params).1.2 L fa cdv)) Q (fun _ _ => False) { s with heap := h', toks := tk' }) :
  wpAny (model PySem.Challenge.rw_tl0048_01.prog w) (Ar 310 100 (envOfC (Str.ofString "law") (lawX w.params).1.2 L fa cdv) []) (execs ((turnX w.params).1.drop 3) (envOfC (Str.ofString "law") (lawX w.params).1.2 L fa cdv)) Q (fun _ _ => False) s := by
  replace i1 := Nat.lt_or_gt_of_ne i1
  replace i2 := Nat.lt_or_gt_of_ne i2
  replace i3 := Nat.lt_or_gt_of_ne i3
  replace i4 := Nat.lt_or_gt_of_ne i4
  replace i5 := Nat.lt_or_gt_of_ne i5
  revert X; k_fill; intro X
  dsimp only [lawX, turnX, List.drop] at hret ⊢
  k_steps
  (rename Fr _ _ _ _ => kF7); (rename News _ _ _ _ => kN7)
  have x1 := (kN7 _ (by k_mem : (L + 1, o1) ∈ _)).1
  have x2 := (kN7 _ (by k_mem : (L + 1 + 1, o2) ∈ _)).1
  refine ⟨_, _, rfl, News.isList kN7 (by k_mem : (lw, lstO wv nW) ∈ _), by rw [List.size_toArray, ints_len hwv, sizeLine_eq]; omega, go_name, fun i ys news => news = [] ∧ IntsAre ys ((ws.take i).map fun p => Int.fmod (p + turn) sz), ⟨rfl, .nil⟩, ?_, ?_⟩
  · rintro hb C D I2 oI2 i2 v ys nD news mC h₁ tk₁ E' kb hx' ⟨rfl, hst⟩ FC NC hne hID
    obtain ⟨wv, tw, hwv', rfl⟩ := ints_at hwv (i := i2) (v := v) (by simpa using hx')
    obtain ⟨hw2, hw3⟩ := hw0 wv (List.mem_of_getElem? hwv')
    have y1 := kb _ _ x1
    have y2 := kb _ _ x2
    clear kF7 kN7 x1 x2
    refine name_assign FC NC rfl rfl fun h₂ F₂ N₂ => ?_
    clear FC NC
    k_steps
    any_goals (show CompEnd _ _ _ _ _ _ _ _ _; (rename Fr _ _ _ _ => kF8); (rename News _ _ _ _ => kN8); refine ⟨_, _, _, [], rfl, kF8, kN8, hne, rfl, ?_⟩; obtain ⟨hlt, rfl⟩ := List.getElem?_eq_some_iff.mp hwv'; rw [List.take_succ_eq_append_getElem hlt, List.map_append]; exact IntsAre.append hst (.cons _ _ .nil))
    all_goals (first | exact [] | exact (0 : Nat) | exact (Str.ofString "") | exact Value.none | exact default)
  · rintro ys D nD news h' tk C mC ⟨rfl, hst⟩ kk hD hD' hnews hC hCD hns
    refine local_done kF7 kN7 kk hD hD' hC hCD hns (by exact rfl) (by exact rfl) fun h3 tk3 F3 N3 => ?_
    have hDc : D ≠ L + 1 + 1 + 1 + 1 := fun e => by
      have := (kN7 _ (by k_mem : (L + 1 + 1 + 1 + 1, o4) ∈ _)).1
      rw [← e, hD] at this
      cases this
    replace hDc := Nat.lt_or_gt_of_ne hDc
    rw [List.size_toArray, ints_len hwv, List.take_length] at hst
    have hil := tupsOf_short hT (by unfold nameF; rw [List.length_map, List.length_zipIdx]; omega)
    have hpo := ports_of (by omega) hss
    generalize hwd : (ws.map fun p => Int.fmod (p + turn) sz) = wd at *
    have hwdl : wd.length = ws.length := by rw [← hwd, List.length_map]
    have hwd6 : wd.length < 64 := by omega
    clear kF7 kN7 x1 x2 hnews hD hD' kk hC hns
    show wpAny _ _ _ _ _ _
    k_steps
    (rename Fr _ _ _ _ => kF7); (rename News _ _ _ _ => kN7); (rename (Obj.data _ = Data.cell (some (Value.ref _))) => d4')
    (rename IsRange _ _ _ _ _ _ _ _ => hr9); (rename List.Perm _ _ => hperm); (rename List.Pairwise _ _ => hsort)
    have hol := hperm.length_eq
    have x4 := (kN7 _ (by k_mem : (L + 1 + 1 + 1 + 1, _) ∈ _)).1
    rename (List Int) => os
    have hio := (by assumption : IntsAre _ os)
    have x5 := (kN7 _ (.tail _ (.tail _ (.tail _ (.tail _ (.head _)))))).1
    have hlaw' := hlaw os hperm hsort
    refine ⟨_, _, _, _, _, _, rfl, hr9, ⟨by decide, by decide, by omega, by omega⟩, by rw [sizeLine_eq]; omega, fun i ys news => news = [] ∧ IntsAre ys (overF os i), ⟨rfl, .nil⟩, ?_, ?_⟩
    · rintro hb C D2 I2 oI2 i2 tv zs nD2 news mC h₁ tk₁ E' kb hi2 ⟨rfl, hst2⟩ FC NC hne hID
      have y4 := kb _ _ x4
      have hl2 : hb.IsList _ _ := ⟨_, kb _ _ x5, rfl, _, rfl⟩
      rw [show (0 : Int) + (i2 : Int) = (i2 : Int) from Int.zero_add _]
      have hik : (i2 : Int) < os.length := by omega
      have hi0 : (0 : Int) ≤ (i2 : Int) := Int.natCast_nonneg i2
      have hi5 : (i2 : Int) < 5 := by omega
      clear kF7 kN7 x4 x5
      refine name_assign FC NC rfl rfl fun h₂ F₂ N₂ => ?_
      clear FC NC
      k_steps
      any_goals (show CompEnd _ _ _ _ _ _ _ _ _; (rename Fr _ _ _ _ => kF8); (rename News _ _ _ _ => kN8); refine ⟨_, _, _, [], rfl, kF8, kN8, hne, rfl, ?_⟩; simp only [Int.toNat_natCast] at *; first | (rw [overF_succ, if_pos (by omega)]; exact IntsAre.append hst2 (.cons _ _ .nil)) | (rw [overF_succ, if_neg (by omega), List.append_nil]; exact hst2))
      all_goals (first | exact [] | exact (0 : Nat) | exact (Str.ofString "") | exact Value.none | exact default)
    · rintro zs D2 nD2 news h' tk C mC ⟨rfl, hst2⟩ kk hD2 hD2' hnews hC hCD hns
      refine none_done kk hD2 hD2' hnews hC hCD hns fun h3 kk3 hw3 => ?_
      have kF6 := fr_keep kF7 kk3
      have kN6 := news_adds kF7 (news_keep kN7 kk3) hw3
      (try dsimp only [List.cons_append, List.nil_append] at kN6)
      rw [show (sz - 1 - 0).toNat = ws.length from by omega] at hst2
      rw [hlaw']
      show wpAny _ _ _ _ _ _
      clear kF7 kN7 hnews hw3 x4 x5 hlaw'
      iterate 6 (walk_at "mine:one")
      simp only [bne_self_eq_false, Bool.false_eq_true, if_false]
      walk_at "mine:one"
      (rename Fr _ _ _ _ => kF8); (rename News _ _ _ _ => kN8)
      exact hret _ _ _ _ _ _ _ _ _ _ _ _ _ _ _ _ _ _ _ _ _ _ _ _ kF8 (pack_B kN8) rfl rfl (by assumption) d4' hio hperm hsort hst
theorem linesTurnC : True := by
  w_top off
  k_with_none
  k_with "getMethod ref" => ((k_here; (with_reducible show wpAny _ _ (getMethod (Value.ref _) (Str.ofString "search") _) _ _ _); k_dflt (refine' search_meth (by k_asm) (by k_asm) (by k_is) ?_; k_whole)))
  k_with "call builtin:re.Pattern.search" => ((k_here; k_dflt (first
  | (refine' search_name (by k_asm) (by k_asm) (by k_is) (by k_is) (by decide +kernel) (by assumption) (by assumption) ?_; k_whole)
  | (refine' search_val (by k_asm) (by k_asm) (by k_is) (by k_is) (by decide +kernel) (by assumption) (by assumption) ?_; k_whole))))
  k_with "mine:le" => (exact Nat.le_of_ble_eq_true rfl)
  k_with "call builtin:str.lower" => ((k_here; (with_reducible show wpAny _ _ (call (Value.builtin "str.lower") [Value.str _ _]) _ _ _); k_dflt (refine' KXw.lower (by assumption) (by (exact low_fit (by assumption))) ?_; k_whole); intro t' k'))
  k_with "mine:moved" => (((rename Keep _ _ => kp9'); (with_reducible rename Fr _ _ _ _ => kF9); (with_reducible rename News _ _ _ _ => kN9); (replace kF9 := fr_keep kF9 kp9'); (replace kN9 := news_keep kN9 kp9'); (try dsimp only at kF9 kN9)))
  k_with "mine:movedN" => (((rename Keep _ _ => kp9'); (rename (Heap.get? _ _ = none) => hn9'); (rename (Heap.get? _ _ = some _) => hq9'); (with_reducible rename Fr _ _ _ _ => kF9); (with_reducible rename News _ _ _ _ => kN9); (replace kN9 := news_add kF9 (news_keep kN9 kp9') hn9' hq9'); (replace kF9 := fr_keep kF9 kp9'); (clear hn9' hq9'); (try dsimp only at kF9 kN9)))
  k_with "mine:one" => ((first | (k_unfold; (try dsimp only)) | (k_end; wrow_close) | walk1 | (dsimp only; walk1)))
  k_with "eval Name" => ((k_here; k_dflt (refine' name_cell (by k_asm) (by with_unfolding_all exact rfl) (by exact rfl) (by decide) (by exact rfl) (by assumption) (by assumption) ?_; k_whole)))
  k_with "call builtin:len" => ((k_here; (with_reducible show wpAny _ _ (call (Value.builtin "len") [Value.ref _]) _ _ _); k_dflt (refine' lst_len (by k_asm) (by k_mem) (by assumption) (by first | assumption | omega) ?_; k_whole)))
  k_with "mine:shape" => (repeat' (first | with_reducible exact ⟨_, rfl⟩ | with_reducible exact Sh.base rfl | with_reducible exact Ov.refl | refine Sh.put ?_ | refine Sh.skip (by decide) (by decide) ?_ | refine Sh.over (by decide) (by decide) ?_ | refine Ov.put (by decide) ?_ | refine Ov.over (by decide) ?_))
  k_with "mine:ne1" => (first | k_ne | exact ne_cell (by k_asm) (by k_mem) (by k_mem) (by assumption) rfl | exact ne_cell (by k_asm) (by k_mem) (by k_mem) (by assumption) (by assumption))
  k_with "mine:allne" => (first | exact List.forall_mem_nil _ | assumption | (refine' List.forall_mem_cons.mpr ⟨(by walk_at "mine:ne1"), (by walk_at "mine:allne")⟩) | exact trips_ne (by k_asm) (fun p hp => by repeat (first | exact hp | apply List.mem_cons_of_mem)) (by k_mem) (by assumption) (by assumption) | exact tups_ne (by k_asm) (fun p hp => by repeat (first | exact hp | apply List.mem_cons_of_mem)) (by k_mem) (by assumption) (by assumption))
  k_with "mine:upd" => (first | (refine' UpdF.head (by walk_at "mine:allne")) | (refine' UpdF.tail (by walk_at "mine:ne1") (by walk_at "mine:upd")))
  k_with "storeName" => ((k_here; (with_reducible show wpAny _ _ (storeName _ _ _) _ _ _); k_dflt (refine' storeX_C (by k_asm) (by k_asm) (by exact rfl) (by walk_at "mine:upd") (by assumption) ?_ (by exact rfl) (by with_unfolding_all exact rfl); k_whole); intro h' o' F' N' d'))
  k_with "call ref" => ((k_here; (with_reducible show wpAny _ _ (call (Value.ref 297) _ _) _ _ _); k_dflt (refine' at_le (by exact rfl) (by exact rfl) (by walk_at "mine:le") (by walk_at "mine:le") (lead_ok _ (by k_asm) (by k_asm) (by k_asm) (by k_asm) (by exact rfl) (by exact rfl) (by exact (News.get (by k_asm) (by k_mem))) (by assumption) (by omega) (by assumption) ?_); k_whole); intro x9 d9 D19 D29 k19 k29 k39 k49 k59 tn9 tt9 tb9 rv9 sv9 vs9 h9 tk9 kp9 hw9 hi9; (with_reducible rename Fr _ _ _ _ => kF9); (with_reducible rename News _ _ _ _ => kN9); (replace kN9 := news_adds kF9 (news_keep kN9 kp9) hw9); (replace kF9 := fr_keep kF9 kp9); (have hp9 := WsP.of' hw9 hi9); (clear hw9); (try dsimp only [wsL, List.cons_append, List.nil_append] at kF9 kN9)))
  k_with "mine:allmem" => (first | exact List.forall_mem_nil _ | (refine' List.forall_mem_cons.mpr ⟨(by k_mem), (by walk_at "mine:allmem")⟩))
  k_with "call ref" => ((k_here; (with_reducible show wpAny _ _ (call (Value.ref 257) _ _) _ _ _); k_dflt (refine' at_le (by exact rfl) (by exact rfl) (by walk_at "mine:le") (by walk_at "mine:le") (equal_ok _ (by k_asm) (by k_asm) (by k_asm) (by k_asm) (by exact rfl) (by exact rfl) (WsP.at (by assumption) (by k_asm) (by walk_at "mine:allmem")) (WsP.at (by assumption) (by k_asm) (by walk_at "mine:allmem")) ?_); k_whole); intro h9 tk9 kp9; walk_at "mine:moved"))
  k_with "compareOp Eq ref ref" => ((k_here; k_dflt (refine' ke_eq_ints (by exact News.isList (by k_asm) (by k_mem)) (by exact News.isList (by k_asm) (by k_mem)) (by assumption) (by first | assumption | exact IntsAre.nil) (by ke_room) ?_; k_whole)))
  trivial
-- room for a contract at its place
-- a written text's lower case is named by a fact
-- behind a contract: the frame's and the ledger's facts at the new heap
-- behind a contract that made an object: its fact joins the ledger


set_option maxHeartbeats 8000000 in
theorem turnC_ok (w : World) {p : Program} {loose : List Str} {mean : ExcName → Option Value} {mg mb : Str → Option Value} {A₀ : Around} {base h₀ : Heap} {L fa ls lp lw xs xt xh ld lo ldw : Addr} {cdv : Value} {s : Shared} {Q : Flow → Shared → Prop} {f : Str → Option Value}
  (B : Below A₀ base [] h₀) (F : Fr h₀ L s.heap (fun y => if y = Str.ofString "held" then some (.ref xh) else if y = Str.ofString "wished" then some (.ref ldw) else if y = Str.ofString "table" then some (.ref xt) else over tnF f (m0F xs lp lw ls) y)) (X : (Mine.KK w.params).In h₀) (T : Top p loose mean mg mb h₀)
  {I dh : Addr} {oI : Obj} {e1 e2 e3 e4 g3 g4 : Addr × Obj} {q1 q2 q3 q4 q5 : Tok} {r1 r2 r3 r4 r5 : Value} {nP nW nS nO nDw : Nat} {pv wv sv ov dv : List Value} {o1 o2 o3 o4 o5 : Obj}
  (N : News h₀ L s.heap ((I, oI) :: e1 :: e2 :: e3 :: e4 :: (lp, lstO pv nP) :: (lw, lstO wv nW) :: (L + 1 + 1 + 1 + 1 + 1, o5) :: (L + 1 + 1 + 1 + 1, o4) :: (L + 1 + 1 + 1, o3) :: (L + 1 + 1, o2) :: (L + 1, o1) :: (ld, lstO sv nS) :: (xh, instObj 281 dh) :: (dh, wsDict w.params q1 q2 q3 q4 q5 r1 r2 r3 r4 r5) :: g3 :: g4 :: (ldw, lstO dv nDw) :: (lo, lstO ov nO) :: []))
  {sz turn : Int} {t1 t2 : Tok} {v5 : Option Value} (d1 : o1.data = .cell (some (.int sz t1))) (d2 : o2.data = .cell (some (.int turn t2))) (d3 : o3.data = .cell (some (.ref ld))) (d4 : o4.data = .cell (some (.ref lo))) (d5 : o5.data = .cell v5)
  {ss os wd : List Int} (hsv : IntsAre sv ss) (hov : IntsAre ov os) (hdv : IntsAre dv wd) (hsl : ss.length ≤ 5) (hdl : wd.length ≤ 5) (hwd : ∀ a ∈ wd, 0 ≤ a ∧ a < 6)
  (hws : WsP 281 w.params [(xh, instObj 281 dh), (dh, wsDict w.params q1 q2 q3 q4 q5 r1 r2 r3 r4 r5), g3, g4] xh (wsFold (codesF ss)))
  (hlaw : ∀ qs : List Int, qs.Perm ss → qs.Pairwise (· ≤ ·) → decide ((wsFold (codesF ss)).cs = (wsFold (codesF wd)).cs ∧ (wsFold (codesF ss)).b = (wsFold (codesF wd)).b) = decide (qs = os))
  (hret : ∀ h' tk' xl (g5 g6 g7 g8 : Addr × Obj), Fr h₀ L h' (fun y => if y = Str.ofString "lead" then some (.ref xl) else if y = Str.ofString "held" then some (.ref xh) else if y = Str.ofString "wished" then some (.ref ldw) else if y = Str.ofString "table" then some (.ref xt) else over tnF f (m0F xs lp lw ls) y) →
    News h₀ L h' ((I, oI) :: e1 :: e2 :: e3 :: e4 :: (lp, lstO pv nP) :: (lw, lstO wv nW) :: (L + 1 + 1 + 1 + 1 + 1, o5) :: (L + 1 + 1 + 1 + 1, o4) :: (L + 1 + 1 + 1, o3) :: (L + 1 + 1, o2) :: (L + 1, o1) :: (ld, lstO sv nS) :: (xh, instObj 281 dh) :: (dh, wsDict w.params q1 q2 q3 q4 q5 r1 r2 r3 r4 r5) :: g3 :: g4 :: (ldw, lstO dv nDw) :: g5 :: g6 :: g7 :: g8 :: []) →
    cellFree g5.2 = true → cellFree g6.2 = true → cellFree g7.2 = true → cellFree g8.2 = true → WsP 281 w.params [g5, g6, g7, g8] xl (wsFold (codesF wd)) →
    wpAny (model PySem.Challenge.rw_tl0048_01.prog w) (Ar 310 100 (envOfC (Str.ofString "law") (lawX w.params).1.2 L fa cdv) []) (execs ((turnX w.params).1.drop 9) (envOfC (Str.ofString "law") (lawX w.params).1.2 L fa cdv)) Q (fun _ _ => False) { s with heap := h', toks := tk' }) :
  wpAny (model PySem.Challenge.rw_tl0048_01.prog w) (Ar 310 100 (envOfC (Str.ofString "law") (lawX w.params).1.2 L fa cdv) []) (execs ((turnX w.params).1.drop 7) (envOfC (Str.ofString "law") (lawX w.params).1.2 L fa cdv)) Q (fun _ _ => False) s := by
  revert X; k_fill; intro X
  dsimp only [lawX, turnX, List.drop] at hret ⊢
  have hsm : SmallP wd := fun a ha => by have := hwd a ha; omega
  have hd6 : wd.length ≤ 6 := by omega
  have hs64 : ss.length < 64 := by omega
  iterate 36 (walk_at "mine:one")
  (rename List.Perm _ _ => hperm); (rename List.Pairwise _ _ => hsort)
  rw [hlaw _ hperm hsort]
  simp only [bne_self_eq_false, Bool.false_eq_true, if_false]
  walk_at "mine:one"
  (rename Fr _ _ _ _ => kF8); (rename News _ _ _ _ => kN8)
  exact hret _ _ _ _ _ _ _ kF8 (pack_C kN8) rfl rfl rfl rfl (by assumption)
theorem linesTurnD : True := by
  w_top off
  k_with_none
  k_with "getMethod ref" => ((k_here; (with_reducible show wpAny _ _ (getMethod (Value.ref _) (Str.ofString "search") _) _ _ _); k_dflt (refine' search_meth (by k_asm) (by k_asm) (by k_is) ?_; k_whole)))
  k_with "call builtin:re.Pattern.search" => ((k_here; k_dflt (first
  | (refine' search_name (by k_asm) (by k_asm) (by k_is) (by k_is) (by decide +kernel) (by assumption) (by assumption) ?_; k_whole)
  | (refine' search_val (by k_asm) (by k_asm) (by k_is) (by k_is) (by decide +kernel) (by assumption) (by assumption) ?_; k_whole))))
  k_with "mine:le" => (exact Nat.le_of_ble_eq_true rfl)
  k_with "call builtin:str.lower" => ((k_here; (with_reducible show wpAny _ _ (call (Value.builtin "str.lower") [Value.str _ _]) _ _ _); k_dflt (refine' KXw.lower (by assumption) (by (exact low_fit (by assumption))) ?_; k_whole); intro t' k'))
  k_with "mine:moved" => (((rename Keep _ _ => kp9'); (with_reducible rename Fr _ _ _ _ => kF9); (with_reducible rename News _ _ _ _ => kN9); (replace kF9 := fr_keep kF9 kp9'); (replace kN9 := news_keep kN9 kp9'); (try dsimp only at kF9 kN9)))
  k_with "mine:movedN" => (((rename Keep _ _ => kp9'); (rename (Heap.get? _ _ = none) => hn9'); (rename (Heap.get? _ _ = some _) => hq9'); (with_reducible rename Fr _ _ _ _ => kF9); (with_reducible rename News _ _ _ _ => kN9); (replace kN9 := news_add kF9 (news_keep kN9 kp9') hn9' hq9'); (replace kF9 := fr_keep kF9 kp9'); (clear hn9' hq9'); (try dsimp only at kF9 kN9)))
  k_with "mine:one" => ((first | (k_unfold; (try dsimp only)) | (k_end; wrow_close) | walk1 | (dsimp only; walk1)))
  k_with "exec For Name Call cons nil" => ((k_here; (with_reducible show wpAny _ _ (exec (Stmt.For (Expr.Name _ _) (Expr.Call (Expr.Name (Str.ofString "range") _) _ _ _) _ [] _) _) _ _ _); (with_reducible rename Fr _ _ _ _ => kF9); k_dflt (refine' For_rangeF kF9 (by exact rfl) ?_; k_whole)))
  k_with "eval ListComp" => ((k_here; (with_reducible show wpAny _ _ (eval (Expr.ListComp _ _ _ _) _) _ _ _); k_dflt (refine' Comp_list (by exact rfl) (by exact rfl) (by decide) (by exact rfl) (by decide) ?_; k_whole)))
  k_with "eval Name" => ((k_here; k_dflt (refine' name_cell (by k_asm) (by with_unfolding_all exact rfl) (by exact rfl) (by decide) (by exact rfl) (by assumption) (by assumption) ?_; k_whole)))
  k_with "call builtin:len" => ((k_here; (with_reducible show wpAny _ _ (call (Value.builtin "len") [Value.ref _]) _ _ _); k_dflt (refine' lst_len (by k_asm) (by k_mem) (by assumption) (by first | assumption | omega) ?_; k_whole)))
  k_with "mine:shape" => (repeat' (first | with_reducible exact ⟨_, rfl⟩ | with_reducible exact Sh.base rfl | with_reducible exact Ov.refl | refine Sh.put ?_ | refine Sh.skip (by decide) (by decide) ?_ | refine Sh.over (by decide) (by decide) ?_ | refine Ov.put (by decide) ?_ | refine Ov.over (by decide) ?_))
  k_with "mine:ne1" => (first | k_ne | exact ne_cell (by k_asm) (by k_mem) (by k_mem) (by assumption) rfl | exact ne_cell (by k_asm) (by k_mem) (by k_mem) (by assumption) (by assumption))
  k_with "mine:allne" => (first | exact List.forall_mem_nil _ | assumption | (refine' List.forall_mem_cons.mpr ⟨(by walk_at "mine:ne1"), (by walk_at "mine:allne")⟩) | exact trips_ne (by k_asm) (fun p hp => by repeat (first | exact hp | apply List.mem_cons_of_mem)) (by k_mem) (by assumption) (by assumption) | exact tups_ne (by k_asm) (fun p hp => by repeat (first | exact hp | apply List.mem_cons_of_mem)) (by k_mem) (by assumption) (by assumption))
  k_with "mine:upd" => (first | (refine' UpdF.head (by walk_at "mine:allne")) | (refine' UpdF.tail (by walk_at "mine:ne1") (by walk_at "mine:upd")))
  k_with "storeName" => ((k_here; (with_reducible show wpAny _ _ (storeName _ _ _) _ _ _); k_dflt (refine' storeX_C (by k_asm) (by k_asm) (by exact rfl) (by walk_at "mine:upd") (by assumption) ?_ (by exact rfl) (by with_unfolding_all exact rfl); k_whole); intro h' o' F' N' d'))
  k_with "call ref" => ((k_here; (with_reducible show wpAny _ _ (call (Value.ref 314) _ _) _ _ _); k_dflt (refine' at_le (by exact rfl) (by exact rfl) (by walk_at "mine:le") (by walk_at "mine:le") (went_ok _ (by k_asm) (by k_asm) (by k_asm) (by k_asm) (by exact rfl) (by exact rfl) (by exact (News.get (by k_asm) (by k_mem))) (by assumption) (by exact (News.get (by k_asm) (by k_mem))) (by assumption) (by assumption) (by assumption) (by assumption) (by assumption) (by omega) (by omega) ?_); k_whole); intro h9 tk9 t9 kp9; walk_at "mine:moved"))
  k_with "mine:allmem" => (first | exact List.forall_mem_nil _ | (refine' List.forall_mem_cons.mpr ⟨(by k_mem), (by walk_at "mine:allmem")⟩))
  k_with "call ref" => ((k_here; (with_reducible show wpAny _ _ (call (Value.ref 264) _ _) _ _ _); k_dflt (refine' at_le (by exact rfl) (by exact rfl) (by walk_at "mine:le") (by walk_at "mine:le") (witness_ok _ (by k_asm) (by k_asm) (by k_asm) (by k_asm) (by exact rfl) (by exact rfl) (WsP.at (by assumption) (by k_asm) (by walk_at "mine:allmem")) (WsP.at (by assumption) (by k_asm) (by walk_at "mine:allmem")) (by assumption) (by assumption) (by assumption) (by assumption) ?_); k_whole); intro a9 nL9 tups9 h9 tk9 kp9 hw9 ht9; walk_at "mine:moved"))
  k_with "mine:allne2" => (first | exact List.forall_mem_nil _ | assumption | (refine' List.forall_mem_cons.mpr ⟨(by k_ne), (by walk_at "mine:allne2")⟩))
  k_with "mine:updl" => (first | (refine' Upd.head (by walk_at "mine:allne2")) | (refine' Upd.tail (by k_ne) (by walk_at "mine:updl")))
  k_with "call builtin:list.append" => ((k_here; (with_reducible show wpAny _ _ (call (Value.builtin _) [Value.ref _, _]) _ _ _); k_dflt (refine' append_K (by k_asm) (by k_asm) (by walk_at "mine:updl") ?_ (by size_fits); k_whole); intro h' F' N'))
  trivial
-- room for a contract at its place
-- a written text's lower case is named by a fact
-- behind a contract: the frame's and the ledger's facts at the new heap
-- behind a contract that made an object: its fact joins the ledger



set_option maxHeartbeats 8000000 in
theorem turnD_ok (w : World) {p : Program} {loose : List Str} {mean : ExcName → Option Value} {mg mb : Str → Option Value} {A₀ : Around} {base h₀ : Heap} {L fa ls lp lw xs xt xh xl ld ldw : Addr} {cdv : Value} {s : Shared} {Q : Flow → Shared → Prop} {f : Str → Option Value}
  (B : Below A₀ base [] h₀) (F : Fr h₀ L s.heap (fun y => if y = Str.ofString "lead" then some (.ref xl) else if y = Str.ofString "held" then some (.ref xh) else if y = Str.ofString "wished" then some (.ref ldw) else if y = Str.ofString "table" then some (.ref xt) else over tnF f (m0F xs lp lw ls) y)) (X : (Mine.KK w.params).In h₀) (T : Top p loose mean mg mb h₀)
  {I dh : Addr} {oI : Obj} {e1 e2 e3 e4 g3 g4 g5 g6 g7 g8 : Addr × Obj} {q1 q2 q3 q4 q5 : Tok} {r1 r2 r3 r4 r5 : Value} {nP nW nS nDw : Nat} {pv wv sv dv us : List Value} {o1 o2 o3 o4 o5 : Obj}
  (N : News h₀ L s.heap ((I, oI) :: e1 :: e2 :: e3 :: e4 :: (lp, lstO pv nP) :: (lw, lstO wv nW) :: (L + 1 + 1 + 1 + 1 + 1, o5) :: (L + 1 + 1 + 1 + 1, o4) :: (L + 1 + 1 + 1, o3) :: (L + 1 + 1, o2) :: (L + 1, o1) :: (ld, lstO sv nS) :: (xh, instObj 281 dh) :: (dh, wsDict w.params q1 q2 q3 q4 q5 r1 r2 r3 r4 r5) :: g3 :: g4 :: (ldw, lstO dv nDw) :: g5 :: g6 :: g7 :: g8 :: []))
  (f1 : cellFree e1.2 = true) (f2 : cellFree e2.2 = true) (f3 : cellFree e3.2 = true) (f4 : cellFree e4.2 = true) (f5 : cellFree g3.2 = true) (f6 : cellFree g4.2 = true) (f7 : cellFree g5.2 = true) (f8 : cellFree g6.2 = true) (f9 : cellFree g7.2 = true) (f10 : cellFree g8.2 = true)
  (i5 : I ≠ L + 1 + 1 + 1 + 1 + 1) (i4 : I ≠ L + 1 + 1 + 1 + 1) (i3 : I ≠ L + 1 + 1 + 1) (i2 : I ≠ L + 1 + 1) (i1 : I ≠ L + 1)
  {sz turn : Int} {t1 t2 : Tok} {v5 : Option Value} (d1 : o1.data = .cell (some (.int sz t1))) (d2 : o2.data = .cell (some (.int turn t2))) (d3 : o3.data = .cell (some (.ref ld))) (d5 : o5.data = .cell v5)
  {ss wd ns : List Int} (hl : h₀.IsList ls us.toArray) (hus : IntsAre us ns) (hnl : ns.length ≤ 63) (hsv : IntsAre sv ss) (hdv : IntsAre dv wd) (hs0 : 5 ≤ sz) (hs1 : sz ≤ 6) (hsl : ss.length = wd.length) (hdl : wd.length ≤ 5) (hd1 : 1 ≤ wd.length) (hwd : ∀ a ∈ wd, 0 ≤ a ∧ a < 6) (hss : ∀ a ∈ ss, 0 ≤ a ∧ a < 6)
  (hws : WsP 281 w.params [(xh, instObj 281 dh), (dh, wsDict w.params q1 q2 q3 q4 q5 r1 r2 r3 r4 r5), g3, g4] xh (wsFold (codesF ss)))
  (hwl : WsP 281 w.params [g5, g6, g7, g8] xl (wsFold (codesF wd)))
  (hlaw : ∀ M : Int, M ∈ ss ++ wd → (∀ a ∈ ss ++ wd, a ≤ M) → witnessF (wsFold (codesF ss)) (wsFold (codesF wd)) = dueF wd ss sz (M + 1).toNat)
  (hret : ∀ h' tk' f' o5' v5', Fr h₀ L h' (over tnF f' (m0F xs lp lw ls)) →
    News h₀ L h' ((I, oI) :: e1 :: e2 :: e3 :: e4 :: (lp, lstO pv nP) :: (lw, lstO wv nW) :: (L + 1 + 1 + 1 + 1 + 1, o5') :: (L + 1 + 1 + 1 + 1, o4) :: (L + 1 + 1 + 1, o3) :: (L + 1 + 1, o2) :: (L + 1, o1) :: []) →
    o5'.data = .cell v5' → Q .next { s with heap := h', toks := tk' }) :
  wpAny (model PySem.Challenge.rw_tl0048_01.prog w) (Ar 310 100 (envOfC (Str.ofString "law") (lawX w.params).1.2 L fa cdv) []) (execs ((turnX w.params).1.drop 9) (envOfC (Str.ofString "law") (lawX w.params).1.2 L fa cdv)) Q (fun _ _ => False) s := by
  replace i1 := Nat.lt_or_gt_of_ne i1
  replace i2 := Nat.lt_or_gt_of_ne i2
  replace i3 := Nat.lt_or_gt_of_ne i3
  replace i4 := Nat.lt_or_gt_of_ne i4
  replace i5 := Nat.lt_or_gt_of_ne i5
  revert X; k_fill; intro X
  dsimp only [lawX, turnX, List.drop]
  k_steps
  · (rename Fr _ _ _ _ => kF7); (rename News _ _ _ _ => kN7); (rename IsRange _ _ _ _ _ _ _ _ => hr9)
    rename (∀ a : Int, a ∈ ss ++ wd → _) => hM2
    rename (_ ∈ ss ++ wd) => hM1
    rename (_ = (_ : Int)) => hturn
    have hlaw' := hlaw _ hM1 hM2
    obtain ⟨hM0, hM6⟩ := (List.mem_append.mp hM1).elim (hss _) (hwd _)
    refine range_pack (fun m news i m₁ news₁ => ∃ la nL trips o5' v5', m (Str.ofString "due") = some (.ref la) ∧ o5'.data = .cell v5' ∧ TripOf trips (dueF wd ss sz i) ∧ (∀ p ∈ trips, p.1 ≠ la) ∧ Ov [Str.ofString "onto", Str.ofString "column"] m m₁ ∧ news₁ = (la, lstO (trips.map fun p => Value.ref p.1) nL) :: (I, oI) :: e1 :: e2 :: e3 :: e4 :: (lp, lstO pv nP) :: (lw, lstO wv nW) :: (L + 1 + 1 + 1 + 1 + 1, o5') :: (L + 1 + 1 + 1 + 1, o4) :: (L + 1 + 1 + 1, o3) :: (L + 1 + 1, o2) :: (L + 1, o1) :: (ld, lstO sv nS) :: (xh, instObj 281 dh) :: (dh, wsDict w.params q1 q2 q3 q4 q5 r1 r2 r3 r4 r5) :: g3 :: g4 :: (ldw, lstO dv nDw) :: g5 :: g6 :: g7 :: g8 :: trips) hr9 (by decide) (by decide) (by omega) (by omega) kF7 (News.tail' kN7) ⟨_, 0, [], o5, v5, rfl, d5, trivial, (fun _ h => by cases h), Ov.refl, rfl⟩ ?_ ?_
    · rintro i tv m₁ news₁ h₁ tk₁ I2 oI2 hi2 ⟨la, nL, trips, o5', v5', hla, d5', htr, hne, ⟨f', rfl⟩, rfl⟩ F₁ N₁ hI2
      simp only [if_true] at hla
      cases hla
      clear kF7 kN7 d5
      (try dsimp only at F₁)
      have hk5 := hI2 _ (by k_mem : (L + 1 + 1 + 1 + 1 + 1, o5') ∈ _)
      have hkl := hI2 _ (.head _)
      simp only [] at hk5 hkl
      replace hk5 := Nat.lt_or_gt_of_ne hk5
      replace hkl := Nat.lt_or_gt_of_ne hkl
      have htl : (trips.map fun p => Value.ref p.1).length ≤ 1000 := by
        rw [List.length_map, htr.length]
        exact Nat.le_trans (due_len wd ss sz i) (by omega)
      have hbo := wentF_bound (ws := wd) (ss := ss) (tab := 1 + (i : Int)) hs0 hs1 (by omega) wd.length
      k_steps
      (rename Fr _ _ _ _ => kF7); (rename News _ _ _ _ => kN7); (rename (Obj.data _ = Data.cell (some (Value.int (1 + _) _))) => d5)
      have x5 := (kN7 _ (by k_mem : (L + 1 + 1 + 1 + 1 + 1, _) ∈ _)).1
      have xla := (kN7 _ (by k_mem : (_, lstO (trips.map fun p => Value.ref p.1) nL) ∈ _)).1
      refine ⟨_, _, rfl, News.isList kN7 (by k_mem : (ldw, lstO dv nDw) ∈ _), by rw [List.size_toArray, ints_len hdv, sizeLine_eq]; omega, go_name, fun j ys news => news = [] ∧ IntsAre ys ((wd.take j).map fun w => (Int.fdiv w (1 + (i : Int)) + 1) * (1 + (i : Int))), ⟨rfl, .nil⟩, ?_, ?_⟩
      · rintro hb C D I3 oI3 j v ys nD news mC h₁ tk₁ E' kb hx' ⟨rfl, hst⟩ FC NC hne3 hID
        obtain ⟨wv, tw, hwv', rfl⟩ := ints_at hdv (i := j) (v := v) (by simpa using hx')
        obtain ⟨hw2, hw3⟩ := hwd wv (List.mem_of_getElem? hwv')
        have y5 := kb _ _ x5
        have hq0 := fdiv_lo (a := wv) (b := 1 + (i : Int)) (by omega) (by omega)
        have hq1 := fdiv_hi (a := wv) (b := 1 + (i : Int)) (by omega) (by omega)
        clear kF7 kN7 x5 xla
        refine name_assign FC NC rfl rfl fun h₂ F₂ N₂ => ?_
        clear FC NC
        k_steps
        any_goals (show CompEnd _ _ _ _ _ _ _ _ _; (rename Fr _ _ _ _ => kF8); (rename News _ _ _ _ => kN8); refine ⟨_, _, _, [], rfl, kF8, kN8, hne3, rfl, ?_⟩; obtain ⟨hlt, rfl⟩ := List.getElem?_eq_some_iff.mp hwv'; rw [List.take_succ_eq_append_getElem hlt, List.map_append]; exact IntsAre.append hst (.cons _ _ .nil))
        all_goals (first | exact [] | exact (0 : Nat) | exact (Str.ofString "") | exact Value.none | exact default)
      · rintro ys D nD news h9 tk9 ⟨rfl, hst⟩ kk hD hD' hnews
        have kF6 := fr_keep kF7 kk
        have kN6 := news_add kF7 (news_keep kN7 kk) hD hD'
        have hDla := fresh_ne xla hD
        dsimp only at hDla
        replace hDla := Nat.lt_or_gt_of_ne (hDla.elim (fun h => Nat.ne_of_lt h) (fun h => Nat.ne_of_gt h))
        rw [List.size_toArray, ints_len hdv, List.take_length] at hst
        clear kF7 kN7 x5 xla hnews hD hD' kk
        k_steps
        · (rename Fr _ _ _ _ => kF8); (rename News _ _ _ _ => kN8)
          rename (_ ≠ (0 : Int)) => hon
          rename (_ ∧ I2 < _ ∧ _) => l9
          have hl9 := l9.2.1
          have hl8 := l9.2.2.1
          rw [app_obj] at kN8
          refine ⟨_, _, _, _, rfl, kF8, pack_D' (tr := trips) kN8, ?_, ⟨_, _, _, _, _, rfl, d5, ?_, ?_, ?_, rfl⟩⟩
          · exact ne_Dx hI2 (Nat.ne_of_gt hl9)
          · rw [dueF, if_neg hon]
            exact TripOf.snoc htr
          · exact ne_snoc (pre := []) (fun _ h => by cases h) hne (Nat.ne_of_gt hl8)
          · walk_at "mine:shape"
        · (rename Fr _ _ _ _ => kF8); (rename News _ _ _ _ => kN8)
          rename (_ = (0 : Int)) => hon
          refine ⟨_, _, _, _, rfl, kF8, News.tail' kN8, ne_D hI2, ⟨_, _, _, _, _, rfl, d5, ?_, hne, ?_, rfl⟩⟩
          · rw [dueF, if_pos hon, List.append_nil]
            exact htr
          · walk_at "mine:shape"
    · rintro m₁ news₁ h₁ tk₁ ⟨la, nL, trips, o5', v5', hla, d5', htr, hne, ⟨f', rfl⟩, rfl⟩ F₁ N₁
      simp only [if_true] at hla
      cases hla
      (try dsimp only at F₁)
      clear kF7 kN7 d5
      have hls := low_facts hss (by omega)
      have hld := low_facts hwd hdl
      obtain ⟨hl1, hl2⟩ := hls
      obtain ⟨hl3, hl4⟩ := hld
      iterate 13 (walk_at "mine:one")
      (rename Fr _ _ _ _ => kF8); (rename News _ _ _ _ => kN8); (rename TripOf _ (witnessF _ _) => hT9)
      have hw9 := wit_pick hT9 (by assumption)
      rw [hlaw'] at hT9
      have hMe : ∀ M : Int, M + 2 - 1 = M + 1 := fun M => by omega
      rw [hMe] at htr
      refine trips_same (hw9 _ (.head _)).1 (News.get kN8 (.head _)) hT9 htr (fun p hp => (hw9 p (.tail _ hp)).1) (fun p hp => (kN8 p (by repeat (first | exact hp | apply List.mem_cons_of_mem))).1) (Nat.le_of_ble_eq_true rfl) ?_
      k_steps
      obtain ⟨f2, hf2⟩ : Ov tnF (m0F xs lp lw ls) (over [Str.ofString "onto", Str.ofString "column"] f' (fun y => if y = Str.ofString "due" then some (.ref _) else if y = Str.ofString "lead" then some (.ref xl) else if y = Str.ofString "held" then some (.ref xh) else if y = Str.ofString "wished" then some (.ref ldw) else if y = Str.ofString "table" then some (.ref xt) else over tnF f (m0F xs lp lw ls) y)) :=
        Ov.over (by decide) (Ov.put (by decide) (Ov.put (by decide) (Ov.put (by decide) (Ov.put (by decide) (Ov.put (by decide) ⟨_, rfl⟩)))))
      exact hret _ _ _ _ _ (hf2 ▸ kF8) (pack_E kN8) d5'
  · (rename Fr _ _ _ _ => kF7); (rename News _ _ _ _ => kN7)
    obtain ⟨f2, hf2⟩ : Ov tnF (m0F xs lp lw ls) (fun y => if y = Str.ofString "lead" then some (.ref xl) else if y = Str.ofString "held" then some (.ref xh) else if y = Str.ofString "wished" then some (.ref ldw) else if y = Str.ofString "table" then some (.ref xt) else over tnF f (m0F xs lp lw ls) y) := by
      refine Ov.put (by decide) (Ov.put (by decide) (Ov.put (by decide) (Ov.put (by decide) ⟨_, rfl⟩)))
    rw [hf2] at kF7
    exact hret _ _ _ _ _ kF7 (News.of_mem kN7 fun p hp => by
      simp only [List.mem_cons, List.not_mem_nil, or_false] at hp ⊢
      rcases hp with h | h | h | h | h | h | h | h | h | h | h | h <;> simp [h]) d5
theorem linesTail : True := by
  w_top off
  k_with_none
  k_with "getMethod ref" => ((k_here; (with_reducible show wpAny _ _ (getMethod (Value.ref _) (Str.ofString "search") _) _ _ _); k_dflt (refine' search_meth (by k_asm) (by k_asm) (by k_is) ?_; k_whole)))
  k_with "call builtin:re.Pattern.search" => ((k_here; k_dflt (first
  | (refine' search_name (by k_asm) (by k_asm) (by k_is) (by k_is) (by decide +kernel) (by assumption) (by assumption) ?_; k_whole)
  | (refine' search_val (by k_asm) (by k_asm) (by k_is) (by k_is) (by decide +kernel) (by assumption) (by assumption) ?_; k_whole))))
  k_with "mine:le" => (exact Nat.le_of_ble_eq_true rfl)
  k_with "call builtin:str.lower" => ((k_here; (with_reducible show wpAny _ _ (call (Value.builtin "str.lower") [Value.str _ _]) _ _ _); k_dflt (refine' KXw.lower (by assumption) (by (exact low_fit (by assumption))) ?_; k_whole); intro t' k'))
  k_with "mine:moved" => (((rename Keep _ _ => kp9'); (with_reducible rename Fr _ _ _ _ => kF9); (with_reducible rename News _ _ _ _ => kN9); (replace kF9 := fr_keep kF9 kp9'); (replace kN9 := news_keep kN9 kp9'); (try dsimp only at kF9 kN9)))
  k_with "mine:movedN" => (((rename Keep _ _ => kp9'); (rename (Heap.get? _ _ = none) => hn9'); (rename (Heap.get? _ _ = some _) => hq9'); (with_reducible rename Fr _ _ _ _ => kF9); (with_reducible rename News _ _ _ _ => kN9); (replace kN9 := news_add kF9 (news_keep kN9 kp9') hn9' hq9'); (replace kF9 := fr_keep kF9 kp9'); (clear hn9' hq9'); (try dsimp only at kF9 kN9)))
  k_with "mine:one" => ((first | (k_unfold; (try dsimp only)) | (k_end; wrow_close) | walk1 | (dsimp only; walk1)))
  k_with "exec For Name Call cons nil" => ((k_here; (with_reducible show wpAny _ _ (exec (Stmt.For (Expr.Name _ _) (Expr.Call (Expr.Name (Str.ofString "range") _) _ _ _) _ [] _) _) _ _ _); (with_reducible rename Fr _ _ _ _ => kF9); k_dflt (refine' For_rangeF kF9 (by exact rfl) ?_; k_whole)))
  k_with "eval Name" => ((k_here; k_dflt (refine' name_cell (by k_asm) (by with_unfolding_all exact rfl) (by exact rfl) (by decide) (by exact rfl) (by assumption) (by assumption) ?_; k_whole)))
  k_with "mine:shape" => (repeat' (first | with_reducible exact ⟨_, rfl⟩ | with_reducible exact Sh.base rfl | with_reducible exact Ov.refl | refine Sh.put ?_ | refine Sh.skip (by decide) (by decide) ?_ | refine Sh.over (by decide) (by decide) ?_ | refine Ov.put (by decide) ?_ | refine Ov.over (by decide) ?_))
  k_with "mine:ne1" => (first | k_ne | exact ne_cell (by k_asm) (by k_mem) (by k_mem) (by assumption) rfl | exact ne_cell (by k_asm) (by k_mem) (by k_mem) (by assumption) (by assumption))
  k_with "mine:allne" => (first | exact List.forall_mem_nil _ | assumption | (refine' List.forall_mem_cons.mpr ⟨(by walk_at "mine:ne1"), (by walk_at "mine:allne")⟩) | exact trips_ne (by k_asm) (fun p hp => by repeat (first | exact hp | apply List.mem_cons_of_mem)) (by k_mem) (by assumption) (by assumption) | exact tups_ne (by k_asm) (fun p hp => by repeat (first | exact hp | apply List.mem_cons_of_mem)) (by k_mem) (by assumption) (by assumption))
  k_with "mine:upd" => (first | (refine' UpdF.head (by walk_at "mine:allne")) | (refine' UpdF.tail (by walk_at "mine:ne1") (by walk_at "mine:upd")))
  k_with "storeName" => ((k_here; (with_reducible show wpAny _ _ (storeName _ _ _) _ _ _); k_dflt (refine' storeX_C (by k_asm) (by k_asm) (by exact rfl) (by walk_at "mine:upd") (by assumption) ?_ (by exact rfl) (by with_unfolding_all exact rfl); k_whole); intro h' o' F' N' d'))
  k_with "subscriptTail Name Slice ref ref" => ((k_here; (with_reducible show wpAny _ _ (subscriptTail _ (PySem.Expr.Slice none none (some _) _) (Value.ref _) (Value.ref _)) _ _ _); k_dflt (refine' krv_ints (by k_asm) (by k_asm) (by kmk_list) (by exact IsPart.int _ _) (by assumption) ?_ (by with_unfolding_all rfl) (by kmk_pure) (by kmk_size)); intro D9 ws9 h9 F9 N9 l9 hI9 hC9; (try k_lt l9); (try k_sweep)))
  k_with "call ref" => ((k_here; (with_reducible show wpAny _ _ (call (Value.ref 292) _ _) _ _ _); k_dflt (refine' at_le (by exact rfl) (by exact rfl) (by walk_at "mine:le") (by walk_at "mine:le") (seek_ok _ (by k_asm) (by k_asm) (by k_asm) (by k_asm) (by exact rfl) (by exact rfl) (by exact (News.get (by k_asm) (by k_mem))) (by assumption) (by omega) (by assumption) (by assumption) (by omega) (by assumption) (by omega) (by omega) ?_); k_whole); intro x9 d9 l9 tk09 nL9 tups9 h9 tk9 kp9 hw9 ht9; (with_reducible rename Fr _ _ _ _ => kF9); (with_reducible rename News _ _ _ _ => kN9); (replace kN9 := news_addsR kF9 (news_keep kN9 kp9) hw9); (replace kF9 := fr_keep kF9 kp9); (clear hw9); (try dsimp only [List.cons_append, List.nil_append] at kF9 kN9)))
  k_with "call ref" => ((k_here; (with_reducible show wpAny _ _ (call (Value.ref 302) _ _) _ _ _); k_dflt (refine' at_le (by exact rfl) (by exact rfl) (by walk_at "mine:le") (by walk_at "mine:le") (held_ok _ (by k_asm) (by k_asm) (by k_asm) (by k_asm) (by exact rfl) (by exact rfl) (by exact (News.get (by k_asm) (by k_mem))) (by exact (News.get (by k_asm) (by k_mem))) (by exact (News.get (by k_asm) (by k_mem))) (by exact TupsOf.tups (by assumption) (News.of_mem (by k_asm) (fun p hp => by repeat (first | exact hp | apply List.mem_cons_of_mem)))) (by assumption) (by assumption) (by omega) ?_); k_whole); intro x9 d9 D19 D29 k19 k29 k39 k49 k59 tn9 tt9 tb9 rv9 sv9 vs9 h9 tk9 kp9 hw9 hi9; (with_reducible rename Fr _ _ _ _ => kF9); (with_reducible rename News _ _ _ _ => kN9); (replace kN9 := news_adds kF9 (news_keep kN9 kp9) hw9); (replace kF9 := fr_keep kF9 kp9); (have hp9 := WsP.of' hw9 hi9); (clear hw9); (try dsimp only [wsL, List.cons_append, List.nil_append] at kF9 kN9)))
  k_with "call ref" => ((k_here; (with_reducible show wpAny _ _ (call (Value.ref 297) _ _) _ _ _); k_dflt (refine' at_le (by exact rfl) (by exact rfl) (by walk_at "mine:le") (by walk_at "mine:le") (lead_ok _ (by k_asm) (by k_asm) (by k_asm) (by k_asm) (by exact rfl) (by exact rfl) (by exact (News.get (by k_asm) (by k_mem))) (by assumption) (by omega) (by assumption) ?_); k_whole); intro x9 d9 D19 D29 k19 k29 k39 k49 k59 tn9 tt9 tb9 rv9 sv9 vs9 h9 tk9 kp9 hw9 hi9; (with_reducible rename Fr _ _ _ _ => kF9); (with_reducible rename News _ _ _ _ => kN9); (replace kN9 := news_adds kF9 (news_keep kN9 kp9) hw9); (replace kF9 := fr_keep kF9 kp9); (have hp9 := WsP.of' hw9 hi9); (clear hw9); (try dsimp only [wsL, List.cons_append, List.nil_append] at kF9 kN9)))
  k_with "mine:allmem" => (first | exact List.forall_mem_nil _ | (refine' List.forall_mem_cons.mpr ⟨(by k_mem), (by walk_at "mine:allmem")⟩))
  k_with "call ref" => ((k_here; (with_reducible show wpAny _ _ (call (Value.ref 257) _ _) _ _ _); k_dflt (refine' at_le (by exact rfl) (by exact rfl) (by walk_at "mine:le") (by walk_at "mine:le") (equal_ok _ (by k_asm) (by k_asm) (by k_asm) (by k_asm) (by exact rfl) (by exact rfl) (WsP.at (by assumption) (by k_asm) (by walk_at "mine:allmem")) (WsP.at (by assumption) (by k_asm) (by walk_at "mine:allmem")) ?_); k_whole); intro h9 tk9 kp9; walk_at "mine:moved"))
  trivial
-- room for a contract at its place
-- a written text's lower case is named by a fact
-- behind a contract: the frame's and the ledger's facts at the new heap
-- behind a contract that made an object: its fact joins the ledger



set_option maxHeartbeats 8000000 in
theorem tail_ok (w : World) {p : Program} {loose : List Str} {mean : ExcName → Option Value} {mg mb : Str → Option Value} {A₀ : Around} {base h₀ : Heap} {L fa ls lp lw xs : Addr} {cdv : Value} {s : Shared} {Q : Flow → Shared → Prop} {f : Str → Option Value}
  (B : Below A₀ base [] h₀) (F : Fr h₀ L s.heap (over tnF f (m0F xs lp lw ls))) (X : (Mine.KK w.params).In h₀) (T : Top p loose mean mg mb h₀)
  {e1 e2 e3 e4 : Addr × Obj} {nP nW : Nat} {pv wv us : List Value} {o1 o2 o3 o4 o5 : Obj}
  (N : News h₀ L s.heap (e1 :: e2 :: e3 :: e4 :: (lp, lstO pv nP) :: (lw, lstO wv nW) :: (L + 1 + 1 + 1 + 1 + 1, o5) :: (L + 1 + 1 + 1 + 1, o4) :: (L + 1 + 1 + 1, o3) :: (L + 1 + 1, o2) :: (L + 1, o1) :: []))
  (f1 : cellFree e1.2 = true) (f2 : cellFree e2.2 = true) (f3 : cellFree e3.2 = true) (f4 : cellFree e4.2 = true)
  {sz : Int} {t1 : Tok} {v2 v3 v4 v5 : Option Value} (d1 : o1.data = .cell (some (.int sz t1))) (d2 : o2.data = .cell v2) (d3 : o3.data = .cell v3) (d4 : o4.data = .cell v4) (d5 : o5.data = .cell v5)
  {ws ns : List Int} (hl : h₀.IsList ls us.toArray) (hus : IntsAre us ns) (hnl : ns.length ≤ 63) (hwv : IntsAre wv ws) (hpv : IntsAre pv (portsF ws sz ws.length)) (hs0 : 5 ≤ sz) (hs1 : sz ≤ 6) (hwl : (ws.length : Int) = sz - 1) (hw0 : ∀ a ∈ ws, 0 ≤ a ∧ a < sz)
  (hws : WsP 281 w.params [e1, e2, e3, e4] xs (wsFold (codesF (upTo (sz - 1))))) (hlaw : LawFacts ws sz)
  (hret : ∀ h' tk' m', Fr h₀ L h' m' → Q (.ret (.bool true)) { s with heap := h', toks := tk' }) :
  wpAny (model PySem.Challenge.rw_tl0048_01.prog w) (Ar 310 100 (envOfC (Str.ofString "law") (lawX w.params).1.2 L fa cdv) []) (execs (tailX w.params).1 (envOfC (Str.ofString "law") (lawX w.params).1.2 L fa cdv)) Q (fun _ _ => False) s := by
  have X0 := X
  revert X; k_fill; intro X
  dsimp only [lawX, tailX]
  k_steps
  (rename IsRange _ _ _ _ _ _ _ _ => hr9); (rename Fr _ _ _ _ => kF7); (rename News _ _ _ _ => kN7)
  refine range_pack (fun m news i m₁ news₁ => ∃ f' o2' o3' o4' o5' v2' v3' v4' v5', m₁ = over tnF f' (m0F xs lp lw ls) ∧ o2'.data = .cell v2' ∧ o3'.data = .cell v3' ∧ o4'.data = .cell v4' ∧ o5'.data = .cell v5' ∧ news₁ = e1 :: e2 :: e3 :: e4 :: (lp, lstO pv nP) :: (lw, lstO wv nW) :: (L + 1 + 1 + 1 + 1 + 1, o5') :: (L + 1 + 1 + 1 + 1, o4') :: (L + 1 + 1 + 1, o3') :: (L + 1 + 1, o2') :: (L + 1, o1) :: []) hr9 (by decide) (by decide) (by omega) (by omega) kF7 kN7 ⟨_, _, _, _, _, _, _, _, _, rfl, d2, d3, d4, d5, rfl⟩ ?_ ?_
  · rintro i tv m₁ news₁ h₁ tk₁ I oI hi' ⟨f', o2', o3', o4', o5', v2', v3', v4', v5', rfl, d2', d3', d4', d5', rfl⟩ F₁ N₁ hI
    clear kF7 kN7 d2 d3 d4 d5
    have i5 := hI _ (by k_mem : (L + 1 + 1 + 1 + 1 + 1, o5') ∈ _)
    have i4 := hI _ (by k_mem : (L + 1 + 1 + 1 + 1, o4') ∈ _)
    have i3 := hI _ (by k_mem : (L + 1 + 1 + 1, o3') ∈ _)
    have i2 := hI _ (by k_mem : (L + 1 + 1, o2') ∈ _)
    have i1 := hI _ (by k_mem : (L + 1, o1) ∈ _)
    simp only [] at i1 i2 i3 i4 i5
    have j1 := Nat.lt_or_gt_of_ne i1
    have j2 := Nat.lt_or_gt_of_ne i2
    have j3 := Nat.lt_or_gt_of_ne i3
    have j4 := Nat.lt_or_gt_of_ne i4
    have j5 := Nat.lt_or_gt_of_ne i5
    rw [show (0 : Int) + (i : Int) = (i : Int) from Int.zero_add _]
    have hi0 : (0 : Int) ≤ (i : Int) := Int.natCast_nonneg i
    have hi1 : (i : Int) < sz := by omega
    walk_at "mine:one"
    walk_at "mine:one"
    (rename Fr _ _ _ _ => kF8); (rename News _ _ _ _ => kN8)
    have hp6 : ∀ a ∈ (portsF ws sz ws.length).map (fun p => Int.fmod (p + (i : Int)) sz), 0 ≤ a ∧ a < 6 := turned_range (by omega) hs1
    have hw6 : ∀ a ∈ ws.map (fun p => Int.fmod (p + (i : Int)) sz), 0 ≤ a ∧ a < 6 := turned_range (by omega) hs1
    have hsl : ((portsF ws sz ws.length).map fun p => Int.fmod (p + (i : Int)) sz).length = ws.length := by rw [List.length_map, hlaw.len]
    have hdl : (ws.map fun p => Int.fmod (p + (i : Int)) sz).length = ws.length := List.length_map _
    refine turnA_ok w B kF8 X0 T kN8 f1 f2 f3 f4 (Ne.symm i5) (Ne.symm i4) (Ne.symm i3) (Ne.symm i2) (Ne.symm i1) d1 (by assumption) d3' d4' d5' hwv hpv hs0 hs1 hwl hlaw.len hw0 (portsF_range (by omega) _) hi0 hi1 (hlaw.seats i hi0 hi1) ?_
    rintro h5 tk5 f5 ld sv nS xt dt lt tk0 nL tups o3' F5 N5 d3'' hsv hT
    rw [ent_nameF, hlaw.seats i hi0 hi1] at hT
    refine turnB_ok w B F5 X0 T N5 f1 f2 f3 f4 (Ne.symm i5) (Ne.symm i4) (Ne.symm i3) (Ne.symm i2) (Ne.symm i1) d1 (by assumption) d3'' d4' d5' hwv hsv hs0 hs1 hwl hsl hw0 hp6 hi0 hi1 hT hws (hlaw.stairs i hi0 hi1) ?_
    rintro h6 tk6 xh dh q1 q2 q3 q4 q5 r1 r2 r3 r4 r5 g3 g4 lo ov nO ldw dv nDw o4'' os F6 N6 f5' f6' hwh d4'' hov hop hos hdv
    refine turnC_ok w B F6 X0 T N6 d1 (by assumption) d3'' d4'' d5' hsv hov hdv (by omega) (by omega) hw6 hwh (hlaw.same i hi0 hi1 os hop hos) ?_
    rintro h7 tk7 xl g5 g6 g7 g8 F7 N7 f7' f8' f9' f10' hwl'
    refine turnD_ok w B F7 X0 T N7 f1 f2 f3 f4 f5' f6' f7' f8' f9' f10' (Ne.symm i5) (Ne.symm i4) (Ne.symm i3) (Ne.symm i2) (Ne.symm i1) d1 (by assumption) d3'' d5' hl hus hnl hsv hdv hs0 hs1 (by omega) (by omega) (by omega) hw6 hp6 hwh hwl' (hlaw.due i hi0 hi1) ?_
    rintro h8 tk8 f8 o5'' v5'' F8 N8 d5''
    refine ⟨_, _, _, _, rfl, F8, N8, ?_, _, _, _, _, _, _, _, _, _, rfl, (by assumption), d3'', d4'', d5'', rfl⟩
    simp only [List.forall_mem_cons] at hI ⊢
    exact hI
  · rintro m₁ news₁ h₁ tk₁ ⟨f', o2', o3', o4', o5', v2', v3', v4', v5', rfl, d2', d3', d4', d5', rfl⟩ F₁ N₁
    clear kF7 kN7 d2 d3 d4 d5 hr9
    have hrv : ∀ a ∈ ws.reverse, 0 ≤ a ∧ a < sz := fun a ha => hw0 a (List.mem_reverse.mp ha)
    dsimp only
    iterate 29 (walk_at "mine:one")
    (rename TupsOf _ _ => hT)
    have hrl : ws.reverse.length = ws.length := List.length_reverse
    have hrr : ∀ a ∈ standsF 0 sz ws.reverse ws.reverse.length, 0 ≤ a ∧ a < 6 := fun a ha => by have := stands_range (by omega) a ha; omega
    have hrl2 : (standsF 0 sz ws.reverse ws.reverse.length).length = ws.length := by rw [stands_len (Nat.le_refl _), hrl]
    rw [ent_nameF] at hT
    have hback := hlaw.back
    rw [← hrl] at hback
    generalize standsF 0 sz ws.reverse ws.reverse.length = rs at *
    have hpo := ports_of (by omega) hrr
    have hil := tupsOf_short hT (by unfold nameF; rw [List.length_map, List.length_zipIdx]; omega)
    have hpr := portsF_range (ws := ws) (size := sz) (by omega) ws.length
    have hsm : SmallP (portsF ws sz ws.length) := fun a ha => by have := hpr a ha; omega
    have hpl6 : (portsF ws sz ws.length).length ≤ 6 := by rw [hlaw.len]; omega
    iterate 21 (walk_at "mine:one")
    rw [hrl] at hback
    rw [decide_eq_true hback]
    (rename Fr _ _ _ _ => kF8)
    exact hret _ _ _ kF8
theorem linesLaw : True := by
  w_top off
  k_with_none
  k_with "getMethod ref" => ((k_here; (with_reducible show wpAny _ _ (getMethod (Value.ref _) (Str.ofString "search") _) _ _ _); k_dflt (refine' search_meth (by k_asm) (by k_asm) (by k_is) ?_; k_whole)))
  k_with "call builtin:re.Pattern.search" => ((k_here; k_dflt (first
  | (refine' search_name (by k_asm) (by k_asm) (by k_is) (by k_is) (by decide +kernel) (by assumption) (by assumption) ?_; k_whole)
  | (refine' search_val (by k_asm) (by k_asm) (by k_is) (by k_is) (by decide +kernel) (by assumption) (by assumption) ?_; k_whole))))
  k_with "mine:le" => (exact Nat.le_of_ble_eq_true rfl)
  k_with "call builtin:str.lower" => ((k_here; (with_reducible show wpAny _ _ (call (Value.builtin "str.lower") [Value.str _ _]) _ _ _); k_dflt (refine' KXw.lower (by assumption) (by (exact low_fit (by assumption))) ?_; k_whole); intro t' k'))
  k_with "mine:moved" => (((rename Keep _ _ => kp9'); (with_reducible rename Fr _ _ _ _ => kF9); (with_reducible rename News _ _ _ _ => kN9); (replace kF9 := fr_keep kF9 kp9'); (replace kN9 := news_keep kN9 kp9'); (try dsimp only at kF9 kN9)))
  k_with "mine:movedN" => (((rename Keep _ _ => kp9'); (rename (Heap.get? _ _ = none) => hn9'); (rename (Heap.get? _ _ = some _) => hq9'); (with_reducible rename Fr _ _ _ _ => kF9); (with_reducible rename News _ _ _ _ => kN9); (replace kN9 := news_add kF9 (news_keep kN9 kp9') hn9' hq9'); (replace kF9 := fr_keep kF9 kp9'); (clear hn9' hq9'); (try dsimp only at kF9 kN9)))
  k_with "mine:one" => ((first | (k_unfold; (try dsimp only)) | (k_end; wrow_close) | walk1 | (dsimp only; walk1)))
  k_with "exec For Name Call cons nil" => ((k_here; (with_reducible show wpAny _ _ (exec (Stmt.For (Expr.Name _ _) (Expr.Call (Expr.Name (Str.ofString "range") _) _ _ _) _ [] _) _) _ _ _); (with_reducible rename Fr _ _ _ _ => kF9); k_dflt (refine' For_rangeF kF9 (by exact rfl) ?_; k_whole)))
  k_with "exec Assign cons ListComp" => ((k_here; (with_reducible show wpAny _ _ (exec (Stmt.Assign [Expr.Name _ _] (Expr.ListComp _ _ _ _) _) _) _ _ _); k_dflt (refine' Comp_assign (by exact rfl) (by with_unfolding_all rfl) (by with_unfolding_all rfl) (by decide) (by exact rfl) (by decide) ?_; k_whole)))
  k_with "subscriptTail List cons Slice ref ref" => ((k_here; k_dflt (refine kba_turn (value' := PySem.Expr.Name (PySem.Str.ofString "_") ⟨0, 0, 0, 0⟩) (fun _ => rfl) ?_)))
  k_with "subscriptTail BinOp Name Add Subscript Slice ref ref" => ((k_here; k_dflt (refine kba_turn (value' := PySem.Expr.Name (PySem.Str.ofString "_") ⟨0, 0, 0, 0⟩) (fun _ => rfl) ?_)))
  k_with "subscriptTail Name Slice ref ref" => ((k_here; k_dflt (refine' kmk_slice_ints (by k_asm) (by k_asm) (by kmk_list) (by kmk_part) (by kmk_part) (by first | assumption | l_ints) (by first | exact kmk_from (by first | assumption | l_ints) (by omega) | exact kmk_upto (by first | assumption | l_ints) (by omega)) (by exact rfl) ?_ (by with_unfolding_all rfl) (by kmk_pure) (by kmk_size)); intro D9 ws9 h9 F9 N9 l9 hI9 hC9 hL9; (try k_lt l9); (try k_sweep)))
  k_with "eval Name" => ((k_here; k_dflt (refine' name_cell (by k_asm) (by with_unfolding_all exact rfl) (by exact rfl) (by decide) (by exact rfl) (by assumption) (by assumption) ?_; k_whole)))
  k_with "call builtin:len" => ((k_here; (with_reducible show wpAny _ _ (call (Value.builtin "len") [Value.ref _]) _ _ _); k_dflt (refine' lst_len (by k_asm) (by k_mem) (by assumption) (by first | assumption | omega) ?_; k_whole)))
  k_with "call ref" => ((k_here; (with_reducible show wpAny _ _ (call (Value.ref 307) _ _) _ _ _); k_dflt (refine' at_le (by exact rfl) (by exact rfl) (by walk_at "mine:le") (by walk_at "mine:le") (taken_ok _ (by k_asm) (by k_asm) (by k_asm) (by k_asm) (by exact rfl) (by exact rfl) (by exact (News.get (by k_asm) (by k_mem))) (by assumption) (by assumption) (by assumption) (by assumption) (by assumption) (by omega) (by omega) ?_); k_whole); intro h9 tk9 kp9; walk_at "mine:moved"))
  k_with "mine:shape" => (repeat' (first | with_reducible exact ⟨_, rfl⟩ | with_reducible exact Sh.base rfl | with_reducible exact Ov.refl | refine Sh.put ?_ | refine Sh.skip (by decide) (by decide) ?_ | refine Sh.over (by decide) (by decide) ?_ | refine Ov.put (by decide) ?_ | refine Ov.over (by decide) ?_))
  k_with "call builtin:list.append" => ((k_here; (with_reducible show wpAny _ _ (call (Value.builtin _) [Value.ref _, _]) _ _ _); k_dflt (refine' append_K (by k_asm) (by k_asm) (by exact Upd.tail (by k_ne) (Upd.tail (by k_ne) (Upd.tail (by k_ne) (Upd.head (by k_all))))) ?_ (by size_fits); k_whole); intro h' F' N'))
  k_with "call ref" => ((k_here; (with_reducible show wpAny _ _ (call (Value.ref 297) _ _) _ _ _); k_dflt (refine' at_le (by exact rfl) (by exact rfl) (by walk_at "mine:le") (by walk_at "mine:le") (leadr_ok _ (by k_asm) (by k_asm) (by k_asm) (by k_asm) (by exact rfl) (by exact rfl) (by assumption) (by assumption) ?_); k_whole); intro x9 d9 D19 D29 k19 k29 k39 k49 k59 tn9 tt9 tb9 rv9 sv9 vs9 h9 tk9 kp9 hw9 hi9; (with_reducible rename Fr _ _ _ _ => kF9); (with_reducible rename News _ _ _ _ => kN9); (replace kN9 := news_adds kF9 (news_keep kN9 kp9) hw9); (replace kF9 := fr_keep kF9 kp9); (have hp9 := WsP.of' hw9 hi9); (clear hw9); (try dsimp only [wsL, List.cons_append, List.nil_append] at kF9 kN9)))
  trivial
-- room for a contract at its place
-- a written text's lower case is named by a fact
-- behind a contract: the frame's and the ledger's facts at the new heap
-- behind a contract that made an object: its fact joins the ledger
theorem size_join {M : Model} {A : Around} {E : Value → Shared → Prop} {s : Shared} {t : Sem Value} {Q : Value → Shared → Prop} (n : Nat) (h1 : wpAny M A t (fun v s' => ∃ sz tk k, v = .int sz tk ∧ s' = { s with toks := k } ∧ sz = if 5 ≤ n then 6 else 5) E s)
  (h2 : ∀ sz tk k, (sz = if 5 ≤ n then 6 else 5) → Q (.int sz tk) { s with toks := k }) : wpAny M A t Q E s := wpAny_mono h1 (fun v s' ⟨sz, tk, k, e, e', h⟩ => e ▸ e' ▸ h2 sz tk k h) fun _ _ h => h
theorem ov_fr {h₀ h : Heap} {L xs lp lw ls : Addr} {f : Str → Option Value} (F : Fr h₀ L h (fun y => if y = Str.ofString "stairs" then some (.ref xs) else over [Str.ofString "k", Str.ofString "port"] f (fun y => if y = Str.ofString "ports" then some (.ref lp) else if y = Str.ofString "wishes" then some (.ref lw) else if y = Str.ofString "script" then some (.ref ls) else none) y)) : ∃ g, Fr h₀ L h (over tnF g (m0F xs lp lw ls)) := by
  obtain ⟨g, e⟩ := ov_start (xs := xs) (lp := lp) (lw := lw) (ls := ls) (f := f)
  exact ⟨g, e ▸ F⟩


set_option maxHeartbeats 8000000 in
theorem law_ok (w : World) {p : Program} {loose : List Str} {mean : ExcName → Option Value} {mg mb : Str → Option Value} {A₀ : Around} {base h₀ : Heap} {L fa ls : Addr} {cdv : Value} {s : Shared} {Q : Flow → Shared → Prop}
  (B : Below A₀ base [] h₀) (F : Fr h₀ L s.heap (fun y => if y = Str.ofString "script" then some (.ref ls) else none)) (X : (Mine.KK w.params).In h₀) (T : Top p loose mean mg mb h₀)
  {o1 o2 o3 o4 o5 : Obj} (N : News h₀ L s.heap [(L + 1 + 1 + 1 + 1 + 1, o5), (L + 1 + 1 + 1 + 1, o4), (L + 1 + 1 + 1, o3), (L + 1 + 1, o2), (L + 1, o1)])
  (d5 : o5.data = .cell none) (d4 : o4.data = .cell none) (d3 : o3.data = .cell none) (d2 : o2.data = .cell none) (d1 : o1.data = .cell none)
  {vs : List Value} {ns : List Int} (hl : h₀.IsList ls vs.toArray) (hi : IntsAre vs ns) (hlen : ns.length ≤ 63)
  (hret : ∀ h' tk' m', Fr h₀ L h' m' → Q (.ret (.bool true)) { s with heap := h', toks := tk' }) :
  wpAny (model PySem.Challenge.rw_tl0048_01.prog w) (Ar 310 100 (envOfC (Str.ofString "law") (lawX w.params).1.2 L fa cdv) []) (execs (lawX w.params).1.1 (envOfC (Str.ofString "law") (lawX w.params).1.2 L fa cdv)) Q (fun _ _ => False) s := by
  revert X; k_fill; intro X
  dsimp only [lawX]
  walk_at "mine:one"
  walk_at "mine:one"
  refine size_join ns.length ?_ ?_
  · k_steps
    all_goals (first | exact (if_pos (by omega)).symm | exact (if_neg (by omega)).symm)
  · intro sz tsz ksz hsz
    show wpAny _ _ _ _ _ _
    have hs0 : 5 ≤ sz := by split at hsz <;> omega
    have hs1 : sz ≤ 6 := by split at hsz <;> omega
    have hwl := wish_len hsz
    have hrl := raw_len hsz
    clear hsz
    k_steps
    (rename Fr _ _ _ _ => kF7); (rename News _ _ _ _ => kN7); (rename IntsAre _ _ => hxs); (rename (Obj.data _ = Data.cell (some (Value.int _ _))) => dsz)
    change IntsAre _ (rawF ns sz) at hxs
    have x1 := (kN7 _ (.tail _ (.tail _ (.tail _ (.tail _ (.tail _ (.tail _ (.tail _ (.tail _ (.head _)))))))))).1
    refine ⟨_, _, rfl, News.isList kN7 (.head _), by rw [List.size_toArray, ints_len hxs, sizeLine_eq]; omega, go_name, fun i ys news => news = [] ∧ IntsAre ys (((rawF ns sz).take i).map fun x => Int.fmod x sz), ⟨rfl, .nil⟩, ?_, ?_⟩
    · rintro hb C D I2 oI2 i2 v ys nD news mC h₁ tk₁ E' kb hx' ⟨rfl, hst⟩ FC NC hne hID
      obtain ⟨wv, tw, hwv, rfl⟩ := ints_at hxs (i := i2) (v := v) (by simpa using hx')
      have y1 := kb _ _ x1
      clear kF7 kN7 x1
      refine name_assign FC NC rfl rfl fun h₂ F₂ N₂ => ?_
      clear FC NC
      k_steps
      any_goals (show CompEnd _ _ _ _ _ _ _ _ _; (rename Fr _ _ _ _ => kF8); (rename News _ _ _ _ => kN8); refine ⟨_, _, _, [], rfl, kF8, kN8, hne, rfl, ?_⟩; obtain ⟨hlt, rfl⟩ := List.getElem?_eq_some_iff.mp hwv; rw [List.take_succ_eq_append_getElem hlt, List.map_append]; exact IntsAre.append hst (.cons _ _ .nil))
      all_goals (first | exact [] | exact (0 : Nat) | exact (Str.ofString "") | exact Value.none | exact default)
    · rintro ys D nD news h' tk C mC ⟨rfl, hst⟩ kk hD hD' hnews hC hCD hns
      refine local_done kF7 (News.tail' (News.tail' (News.tail' (News.tail' kN7)))) kk hD hD' hC hCD hns (by exact rfl) (by exact rfl) fun h3 tk3 F3 N3 => ?_
      rw [List.size_toArray, ints_len hxs, List.take_length] at hst
      change IntsAre ys (wishF ns sz) at hst
      have hwr := wish_range (ns := ns) (sz := sz) (by omega)
      clear kF7 kN7 x1 hxs kk hD hD' hC hns
      show wpAny _ _ _ _ _ _
      k_steps
      (rename IsRange _ _ _ _ _ _ _ _ => hr9)
      have hwl5 : (wishF ns sz).length ≤ 5 := by omega
      have hvl := ints_len hst
      refine range_pack (fun m news k m₁ news₁ => ∃ lp pv nP, m (Str.ofString "ports") = some (.ref lp) ∧ IntsAre pv (portsF (wishF ns sz) sz k) ∧ Ov [Str.ofString "k", Str.ofString "port"] m m₁ ∧ news₁ = (lp, lstO pv nP) :: news.tail) hr9 (by decide) (by decide) (by omega) (by omega) (by k_asm) (by k_asm) ⟨_, _, _, rfl, .nil, Ov.refl, rfl⟩ ?_ ?_
      · rintro i tv m₁ news₁ h₁ tk₁ I oI hi' ⟨lp, pv, nP, hlp, hpv, ⟨f, rfl⟩, rfl⟩ F₁ N₁ hI
        simp only [if_true] at hlp
        cases hlp
        (try dsimp only [List.tail] at F₁ N₁ hI)
        rw [show (0 : Int) + (i : Int) = (i : Int) from Int.zero_add _]
        have hi0 : (0 : Int) ≤ (i : Int) := Int.natCast_nonneg i
        k_steps
        (rename IsRange _ _ _ _ _ _ _ _ => hr8)
        refine range_pack (fun m news j m₁ news₁ => ∃ pv nP, IntsAre pv (portsIn ((wishF ns sz).take ((i : Int) + 1).toNat) sz (portsF (wishF ns sz) sz i) j) ∧ Ov [Str.ofString "port"] m m₁ ∧ news₁ = news.take 1 ++ (_, lstO pv nP) :: news.drop 2) hr8 (by decide) (by decide) (by omega) (by omega) (by k_asm) (by k_asm) ⟨_, _, hpv, Ov.refl, rfl⟩ ?_ ?_
        · rintro j tv' m₁ news₁ h₁ tk₁ I' oI' hj' ⟨pv', nP', hpv', ⟨f', rfl⟩, rfl⟩ F₂ N₂ hI2
          (try dsimp only [List.take, List.drop, List.cons_append, List.nil_append] at F₂ N₂ hI2)
          rw [show (0 : Int) + (j : Int) = (j : Int) from Int.zero_add _]
          have hj0 : (0 : Int) ≤ (j : Int) := Int.natCast_nonneg j
          have hj1 : (j : Int) < sz := by omega
          have htk : ((wishF ns sz).take ((i : Int) + 1).toNat).length ≤ 5 := Nat.le_trans (List.length_take_le' _ _) hwl5
          have htr : ∀ a ∈ (wishF ns sz).take ((i : Int) + 1).toNat, 0 ≤ a ∧ a < sz := fun a ha => hwr a (List.mem_of_mem_take ha)
          have hpl : pv'.length ≤ 60 := by
            have h1 := portsIn_len ((wishF ns sz).take ((i : Int) + 1).toNat) sz (portsF (wishF ns sz) sz i) j
            have h2 := portsF_len (ws := wishF ns sz) hs1 i
            rw [ints_len hpv']
            omega
          have hc1 := hI2 _ (.tail _ (.head _))
          have hc2 := hI _ (.head _)
          simp only [] at hc1 hc2
          replace hc1 := Nat.lt_or_gt_of_ne hc1
          replace hc2 := Nat.lt_or_gt_of_ne hc2
          k_steps
          · (rename Fr _ _ _ _ => kF8); (rename News _ _ _ _ => kN8)
            refine ⟨_, _, _, _, rfl, kF8, kN8, hI2, ⟨_, _, ?_, Ov.put (by decide) ⟨_, rfl⟩, rfl⟩⟩
            rw [portsIn_has (by assumption)]
            exact hpv'
          · (rename Fr _ _ _ _ => kF8); (rename News _ _ _ _ => kN8)
            rw [app_obj] at kN8
            refine ⟨_, _, _, _, rfl, kF8, News.tail' kN8, ne_upd hI2, ⟨_, _, ?_, Ov.put (by decide) ⟨_, rfl⟩, rfl⟩⟩
            rw [portsIn_new (by assumption) (by assumption)]
            exact IntsAre.append hpv' (.cons _ _ .nil)
          · (rename Fr _ _ _ _ => kF8); (rename News _ _ _ _ => kN8)
            refine ⟨_, _, _, _, rfl, kF8, News.tail' kN8, hI2, ⟨_, _, ?_, Ov.put (by decide) ⟨_, rfl⟩, rfl⟩⟩
            rw [portsIn_not (by assumption)]
            exact hpv'
        · rintro m₁ news₁ h₁ tk₁ ⟨pv', nP', hpv', ⟨f', rfl⟩, rfl⟩ F₂ N₂
          (try dsimp only [List.take, List.drop, List.cons_append, List.nil_append] at F₂ N₂)
          k_steps
          (rename Fr _ _ _ _ => kF8); (rename News _ _ _ _ => kN8)
          refine ⟨_, _, _, _, rfl, kF8, kN8, ne_upd0 hI, ⟨_, _, _, rfl, portsF_succ ▸ hpv', ?_, rfl⟩⟩
          walk_at "mine:shape"
      · rintro m₁ news₁ h₁ tk₁ ⟨lp, pv, nP, hlp, hpv, ⟨f, rfl⟩, rfl⟩ F₁ N₁
        simp only [if_true] at hlp
        cases hlp
        (try dsimp only [List.tail] at F₁ N₁)
        rw [show (sz - 1 - 0).toNat = (wishF ns sz).length from by omega] at hpv
        have hN45 : sz - 1 = 4 ∨ sz - 1 = 5 := by omega
        iterate 20 (walk_at "mine:one")
        (rename Fr _ _ _ _ => kF8); (rename News _ _ _ _ => kN8)
        obtain ⟨f9, kF9⟩ := ov_fr kF8
        refine tail_ok w B kF9 X T kN8 rfl rfl rfl rfl (by assumption) d2 d3 d4 d5 hl hi hlen hst hpv hs0 hs1 hwl hwr (by assumption) (law_facts (by omega) hwr hwl) ?_
        exact fun h' tk' => hret h' tk'
theorem linesMain : True := by
  w_top off
  k_with_none
  k_with "getMethod ref" => ((k_here; (with_reducible show wpAny _ _ (getMethod (Value.ref _) (Str.ofString "search") _) _ _ _); k_dflt (refine' search_meth (by k_asm) (by k_asm) (by k_is) ?_; k_whole)))
  k_with "call builtin:re.Pattern.search" => ((k_here; k_dflt (first
  | (refine' search_name (by k_asm) (by k_asm) (by k_is) (by k_is) (by decide +kernel) (by assumption) (by assumption) ?_; k_whole)
  | (refine' search_val (by k_asm) (by k_asm) (by k_is) (by k_is) (by decide +kernel) (by assumption) (by assumption) ?_; k_whole))))
  k_with "mine:le" => (exact Nat.le_of_ble_eq_true rfl)
  k_with "call builtin:str.lower" => ((k_here; (with_reducible show wpAny _ _ (call (Value.builtin "str.lower") [Value.str _ _]) _ _ _); k_dflt (refine' KXw.lower (by assumption) (by (exact low_fit (by assumption))) ?_; k_whole); intro t' k'))
  k_with "mine:moved" => (((rename Keep _ _ => kp9'); (with_reducible rename Fr _ _ _ _ => kF9); (with_reducible rename News _ _ _ _ => kN9); (replace kF9 := fr_keep kF9 kp9'); (replace kN9 := news_keep kN9 kp9'); (try dsimp only at kF9 kN9)))
  k_with "mine:movedN" => (((rename Keep _ _ => kp9'); (rename (Heap.get? _ _ = none) => hn9'); (rename (Heap.get? _ _ = some _) => hq9'); (with_reducible rename Fr _ _ _ _ => kF9); (with_reducible rename News _ _ _ _ => kN9); (replace kN9 := news_add kF9 (news_keep kN9 kp9') hn9' hq9'); (replace kF9 := fr_keep kF9 kp9'); (clear hn9' hq9'); (try dsimp only at kF9 kN9)))
  k_with "mine:one" => ((first | (k_unfold; (try dsimp only)) | (k_end; wrow_close) | walk1 | (dsimp only; walk1)))
  trivial
-- room for a contract at its place
-- a written text's lower case is named by a fact
-- behind a contract: the frame's and the ledger's facts at the new heap
-- behind a contract that made an object: its fact joins the ledger

theorem full.tw12697596403617020856 : True := trivial
theorem full.tw17136452372191112453 : True := trivial
theorem full.tw2829592158698930827 : True := trivial
theorem full.tw13366627882410861781 : True := trivial
theorem full.tw16151893145073508728 : True := trivial
theorem full.tw4380286236567510117 : True := trivial
theorem full.tw11663832653172272281 : True := trivial
theorem full.tw18000089199079940667 : True := trivial
theorem full.tw16327023796516058554 : True := trivial
theorem full.tw716534308969972359 : True := trivial
theorem full.tw14885632909798601022 : True := trivial
theorem full.tw8087204793110855947 : True := trivial
theorem full.tw2852006377908092607 : True := trivial
theorem full.tw18270706379053667699 : True := trivial
theorem full.tw16065959130527363246 : True := trivial
theorem full.tw10169622171864806665 : True := trivial
theorem full.tw12209861775083836534 : True := trivial
theorem full.tw9524404869473200992 : True := trivial
theorem full.tw15537054207046128594 : True := trivial
theorem full.tw13724232737156196217 : True := trivial
theorem full.tw6920258544493655085 : True := trivial
theorem full.tw5544772742947588388 : True := trivial
theorem full.tw9367510186574277660 : True := trivial
theorem full.tw4892191247594080840 : True := trivial
theorem full.tw16205347668397115748 : True := trivial
theorem full.tw732867316064127185 : True := trivial
theorem full.tw17422715905552211546 : True := trivial
theorem full.tw10289159785192752064 : True := trivial
theorem full.tw17703782300220347972 : True := trivial
theorem full.tw12430000426737808289 : True := trivial
theorem full.tw1950861315625182565 : True := trivial
theorem full.tw14141463827536537206 : True := trivial
theorem full.tw16594439816569451990 : True := trivial
theorem full.tw11493576384789067057 : True := trivial
theorem full.tw11572309708020545144 : True := trivial
theorem full.tw10654203438237487823 : True := trivial
theorem full.tw10753861260644461492 : True := trivial
theorem full.tw1022691341184328843 : True := trivial
theorem full.tw6486019159615943264 : True := trivial
theorem full.tw12572964050949358182 : True := trivial
theorem full.tw1211063515210521810 : True := trivial
theorem full.tw2349605129697969679 : True := trivial
theorem full.tw4252678805798429035 : True := trivial
theorem full.tw8206991428424547384 : True := trivial
theorem full.tw1654689034646518401 : True := trivial
theorem full.tw10870253052197608064 : True := trivial
theorem full.tw12417339414431612926 : True := trivial
theorem full.tw10690100743018327797 : True := trivial
theorem full.tw17688629526809211790 : True := trivial
theorem full.tw9653290947008587659 : True := trivial
theorem full.tw9884993627858349568 : True := trivial
theorem full.tw9700387166480054322 : True := trivial
theorem full.tw14385243217120903012 : True := trivial
theorem full.tw13344701976201838940 : True := trivial
theorem full.tw15625747840792060359 : True := trivial
theorem full.tw8217698424225253309 : True := trivial
theorem full.tw9697011034788594424 : True := trivial
theorem full.tw5386044323488801251 : True := trivial
theorem full.tw7473066239276428439 : True := trivial
theorem full.tw17210057961789136041 : True := trivial
theorem full.tw4352307031798623991 : True := trivial
theorem full.tw8132172311274790425 : True := trivial
theorem full.tw2012920529542416607 : True := trivial
theorem full.tw7294856500372946289 : True := trivial
theorem full.tw7662445631793451198 : True := trivial
theorem full.tw9718386564233898127 : True := trivial
theorem full.tw3961885251437331981 : True := trivial
theorem full.tw6052989939191174618 : True := trivial
theorem full.tw14133995448070676212 : True := trivial
theorem full.tw10579768551346324838 : True := trivial
theorem full.tw4567572250574039462 : True := trivial
theorem full.tw12726279724704100588 : True := trivial
theorem full.tw16720181133801578465 : True := trivial
theorem full.tw16679832315498805117 : True := trivial
theorem full.tw14149004962498151908 : True := trivial
theorem full.tw16969604304810760469 : True := trivial
theorem full.tw8603230625631601248 : True := trivial
theorem full.tw4889209172316861123 : True := trivial
theorem full.tw8657502563033550123 : True := trivial
theorem full.tw661105218455598305 : True := trivial
theorem full.tw7736349363400490797 : True := trivial
theorem full.tw2591734982429093664 : True := trivial
theorem full.tw12120921201514345242 : True := trivial
theorem full.tw17375891826979578984 : True := trivial
theorem full.tw13164010386685821392 : True := trivial
theorem full.tw6375430502222757271 : True := trivial
theorem full.tw17341659322105601730 : True := trivial
theorem full.tw9989504048551468567 : True := trivial
theorem full.tw18333262868939490472 : True := trivial
theorem full.tw13757378850800150669 : True := trivial
theorem full.tw6049194144309326838 : True := trivial
theorem full.tw14563928473693663315 : True := trivial
theorem full.tw7579334578078215152 : True := trivial
theorem full.tw15365972864339695236 : True := trivial
theorem full.tw6620067775542519237 : True := trivial
theorem full.tw9090814584095381634 : True := trivial
theorem full.tw13251965095721640271 : True := trivial
theorem full.tw6240018614722566428 : True := trivial
theorem full.tw16094889608958366657 : True := trivial
theorem full.tw1401657419735904590 : True := trivial
theorem full.tw12071708899648606223 : True := trivial
theorem full.tw11958570473984917736 : True := trivial
theorem full.tw14097374405943638244 : True := trivial
theorem full.tw13697712236162967294 : True := trivial
theorem full.tw18299666583829004268 : True := trivial
theorem full.tw13511677375890366468 : True := trivial
theorem full.tw12000010725639032982 : True := trivial
theorem full.tw10336513127204130116 : True := trivial
theorem full.tw8262720897703384389 : True := trivial
theorem full.tw17338747002267288062 : True := trivial
theorem full.tw9039653459481289975 : True := trivial
theorem full.tw8712178595889190699 : True := trivial
theorem full.tw1993434756958257784 : True := trivial
theorem full.tw8787504416166006754 : True := trivial
theorem full.tw2128767186505223983 : True := trivial
theorem full.tw6445740039160268759 : True := trivial
theorem full.tw10943123321615187933 : True := trivial
theorem full.tw13363460695704816469 : True := trivial
theorem full.tw15220913161327982178 : True := trivial
theorem full.tw3936555120959827598 : True := trivial
theorem full.tw7303645486531224928 : True := trivial
theorem full.tw9284979354284186635 : True := trivial
theorem full.tw11313476013273395540 : True := trivial
theorem full.tw6646130889840701087 : True := trivial
theorem full.tw12699127712464507901 : True := trivial
theorem full.tw17264974906918413939 : True := trivial
theorem full.tw2069758657272074427 : True := trivial
theorem full.tw5535878885620693931 : True := trivial
theorem full.tw12682972203538691057 : True := trivial
theorem full.tw3598115861763484166 : True := trivial
theorem full.tw11199851383410481998 : True := trivial
theorem full.tw14589873256131906719 : True := trivial
theorem full.tw1677419016311047567 : True := trivial
theorem full.tw1783013729509102421 : True := trivial
theorem full.tw17004943446660451770 : True := trivial
theorem full.tw4267676916070951782 : True := trivial
theorem full.tw16057783639799137776 : True := trivial
theorem full.tw1536178991699228400 : True := trivial
theorem full.tw16555859157311820610 : True := trivial
theorem full.tw14751614692483622125 : True := trivial
theorem full.tw14995295552182904705 : True := trivial
theorem full.tw14951004823831939669 : True := trivial
theorem full.tw13596732716755994453 : True := trivial
theorem full.tw6080365437653941369 : True := trivial
theorem full.tw16512653442950313008 : True := trivial
theorem full.tw10833839000079978694 : True := trivial
theorem full.tw15556424768017227025 : True := trivial
theorem full.tw9572124403037091105 : True := trivial
theorem full.tw7760846758221951376 : True := trivial
theorem full.tw2733898907513404027 : True := trivial
theorem full.tw12419947654870774400 : True := trivial
theorem full.tw2363864652939715732 : True := trivial
theorem full.tw13255975068538222646 : True := trivial
theorem full.tw15804540889934666623 : True := trivial
theorem full.tw7679247781137425285 : True := trivial
theorem full.tw2666927098424499016 : True := trivial
theorem full.tw4805669822576718056 : True := trivial
theorem full.tw9426729187488167829 : True := trivial
theorem full.tw15835549087968597700 : True := trivial
theorem full.tw4031268215884047021 : True := trivial
theorem full.tw17689474972114599021 : True := trivial
theorem full.tw14825795306491955280 : True := trivial
theorem full.tw8482612540683590099 : True := trivial
theorem full.tw274928295979168278 : True := trivial
theorem full.tw398597092986529900 : True := trivial
theorem full.tw11355726120139904686 : True := trivial
theorem full.tw1880930990523916890 : True := trivial
theorem full.tw17055003478023090044 : True := trivial
theorem full.tw2980166450680593463 : True := trivial
theorem full.tw2389105362481172583 : True := trivial
theorem full.tw18355454585526092356 : True := trivial
theorem full.tw5149844798478595827 : True := trivial
theorem full.tw4457556567760859914 : True := trivial
theorem full.tw2990715617431631095 : True := trivial
theorem full.tw14403649638648440790 : True := trivial
theorem full.tw13413529370484778932 : True := trivial
theorem full.tw2770573830885221853 : True := trivial
theorem full.tw10522144204028987312 : True := trivial
theorem full.tw15425669028361891807 : True := trivial
theorem full.tw13664843122935997671 : True := trivial
theorem full.tw15014038445329843491 : True := trivial
theorem full.tw15061893733373917298 : True := trivial
theorem full.tw4762698730463106605 : True := trivial
theorem full.tw5759505219088364482 : True := trivial
theorem full.tw8752859239410247886 : True := trivial
theorem full.tw13818052312932839251 : True := trivial
theorem full.tw8855480023314820150 : True := trivial
theorem full.tw11706430506499652095 : True := trivial
theorem full.tw5966566993688906189 : True := trivial
theorem full.tw11327200432211763752 : True := trivial
theorem full.tw17723378861867900490 : True := trivial
theorem full.tw6975924816257417180 : True := trivial
theorem full.tw5422758813169936364 : True := trivial
theorem full.tw16758241416206632806 : True := trivial
theorem full.tw8664349207377230439 : True := trivial
theorem full.tw11080243573434589766 : True := trivial
theorem full.tw13635689181921532713 : True := trivial
theorem full.tw7951935102366509262 : True := trivial
theorem full.tw13873154135419894587 : True := trivial
theorem full.tw417895159654752748 : True := trivial
theorem full.tw14394617497563192582 : True := trivial
theorem full.tw2311659555344668074 : True := trivial
theorem full.tw2162528594682109041 : True := trivial
theorem full.tw9728912150219517941 : True := trivial
theorem full.tw3268744023281791443 : True := trivial
theorem full.tw3266032227623398578 : True := trivial
theorem full.tw5786081165281747406 : True := trivial
theorem full.tw6471808668561041927 : True := trivial
theorem full.tw7827417266115643176 : True := trivial
theorem full.tw10425936204090789723 : True := trivial
theorem full.tw11013502027919801188 : True := trivial
theorem full.tw18161255526204805683 : True := trivial
theorem full.tw4064718651420027450 : True := trivial
theorem full.tw18349740399517581384 : True := trivial
theorem full.tw15324466914463080191 : True := trivial
theorem full.tw14367917121605154638 : True := trivial
theorem full.tw4049127265623074924 : True := trivial
theorem full.tw6600477288646320866 : True := trivial
theorem full.tw15523430814340932405 : True := trivial
theorem full.tw16958586612238663074 : True := trivial
theorem full.tw18212191460328714895 : True := trivial
theorem full.tw7817904493312662296 : True := trivial
theorem full.tw12201420660098112460 : True := trivial
theorem full.tw10476952820969954081 : True := trivial
theorem full.tw3232044202909569652 : True := trivial
theorem full.tw7177737425375975225 : True := trivial
theorem full.tw17068371156075486617 : True := trivial
theorem full.tw10176065992317995337 : True := trivial
theorem full.tw16075942029494575958 : True := trivial
theorem full.tw6992569259702089164 : True := trivial
theorem full.tw13908049897637574844 : True := trivial
theorem full.tw15293206088939532066 : True := trivial
theorem full.tw16216338415699250113 : True := trivial
theorem full.tw14601229177553261327 : True := trivial
theorem full.tw15451152587662761239 : True := trivial
theorem full.tw11318551758115734711 : True := trivial
theorem full.tw2875884781571890325 : True := trivial
theorem full.tw942446105021267115 : True := trivial
theorem full.tw6271458312169414215 : True := trivial
theorem full.tw5303964818821370564 : True := trivial
theorem full.tw15152063728245783042 : True := trivial
theorem full.tw10058577574024574364 : True := trivial
theorem full.tw4738091453826675227 : True := trivial
theorem full.tw11046104375116167685 : True := trivial
theorem full.tw1311718872471286491 : True := trivial
theorem full.tw2392243291747233188 : True := trivial
theorem full.tw9901254358981970422 : True := trivial
theorem full.tw5382779993265464898 : True := trivial
theorem full.tw11776947777563325483 : True := trivial
theorem full.tw17266542466226172174 : True := trivial
theorem full.tw18150794118195216262 : True := trivial
theorem full.tw392425806844962523 : True := trivial
theorem full.tw7745496751089155138 : True := trivial
theorem full.tw4744428866162695648 : True := trivial
theorem full.tw8787446538639537632 : True := trivial
theorem full.tw4351223346371957848 : True := trivial
theorem full.tw13114324793614977435 : True := trivial
theorem full.tw12878077976065309542 : True := trivial
theorem full.tw5282550952473652981 : True := trivial
theorem full.tw10721319937860348172 : True := trivial
theorem full.tw607485027135671481 : True := trivial
theorem full.tw444383336748282573 : True := trivial
theorem full.tw2151402439712508279 : True := trivial
theorem full.tw7744629890359268331 : True := trivial
theorem full.tw65289015581082023 : True := trivial
theorem full.tw7276575812865992436 : True := trivial
theorem full.tw14743107697618757539 : True := trivial
theorem full.tw2633967428434653502 : True := trivial
theorem full.tw11549231204836878072 : True := trivial
theorem full.tw7885361186851233067 : True := trivial
theorem full.tw1759280185930219272 : True := trivial
theorem full.tw15493062184772385872 : True := trivial
theorem full.tw14232039422012124685 : True := trivial
theorem full.tw10523334804811867281 : True := trivial
theorem full.tw10008416791420010333 : True := trivial
theorem full.tw1240544587892835771 : True := trivial
theorem full.tw13350094170779742733 : True := trivial
theorem full.tw2684714846923487648 : True := trivial
theorem full.tw903472486454055006 : True := trivial
theorem full.tw9254438948299702855 : True := trivial
theorem full.tw211461517061881589 : True := trivial
theorem full.tw10365730805864414925 : True := trivial
theorem full.tw4061839812228532617 : True := trivial
theorem full.tw414191944975207698 : True := trivial
theorem full.tw5682047602113002614 : True := trivial
theorem full.tw944794918701187124 : True := trivial
theorem full.tw7827235550486974308 : True := trivial
theorem full.tw16530862177621653590 : True := trivial
theorem full.tw15986973977355863385 : True := trivial
theorem full.tw15515674114414527202 : True := trivial
theorem full.tw8958678961931773978 : True := trivial
theorem full.tw16855738798476364194 : True := trivial
theorem full.tw5656500522282199074 : True := trivial
theorem full.tw5957365257104054697 : True := trivial
theorem full.tw3339634502620544786 : True := trivial
theorem full.tw18210081286698975108 : True := trivial
theorem full.tw16965897318940482146 : True := trivial
theorem full.tw221643357159484495 : True := trivial
theorem full.tw4347655280433269075 : True := trivial
theorem full.tw10044004973979984086 : True := trivial
theorem full.tw4044740327477318330 : True := trivial
theorem full.tw13206371902811503275 : True := trivial
theorem full.tw16430728454803687029 : True := trivial
theorem full.tw17920807653497875221 : True := trivial
theorem full.tw15288694770036602499 : True := trivial
theorem full.tw3019874996744385527 : True := trivial
theorem full.tw12852718221353495838 : True := trivial
theorem full.tw10099810201672782574 : True := trivial
theorem full.tw9166603564260734233 : True := trivial
theorem full.tw3151294536367638112 : True := trivial
theorem full.tw16898384207263720307 : True := trivial
theorem full.tw895687212428129010 : True := trivial
theorem full.tw6736623609300863169 : True := trivial
theorem full.tw3963479813436187099 : True := trivial
theorem full.tw10707520121678838375 : True := trivial
theorem full.tw14646410296433661640 : True := trivial
theorem full.tw5381854913813138957 : True := trivial
theorem full.tw13109922678641308700 : True := trivial
theorem full.tw18398020362020760440 : True := trivial
theorem full.tw11122422496487938370 : True := trivial
theorem full.tw6163273239907124716 : True := trivial
theorem full.tw3668233331926385649 : True := trivial
theorem full.tw10869432461851674106 : True := trivial
theorem full.tw582376832261475058 : True := trivial
theorem full.tw12461475684507043913 : True := trivial
theorem full.tw7582897303308423066 : True := trivial
theorem full.tw10629293421532910158 : True := trivial
theorem full.tw368848132596542522 : True := trivial
theorem full.tw8366604816176576000 : True := trivial
theorem full.tw11137380810381734955 : True := trivial
theorem full.tw3773688007414732287 : True := trivial
theorem full.tw1833952895126055435 : True := trivial
theorem full.tw3465840379565336882 : True := trivial
theorem full.tw8201836434073664986 : True := trivial
theorem full.tw9615258859266979901 : True := trivial
theorem full.tw9618513371791378263 : True := trivial
theorem full.tw8748157997368740455 : True := trivial
theorem full.tw1876527205830516908 : True := trivial
theorem full.tw1396306861701036367 : True := trivial
theorem full.tw6884248584316782043 : True := trivial
theorem full.tw6151997009787390408 : True := trivial
theorem full.tw9289601388430287860 : True := trivial
theorem full.tw4696907024446595207 : True := trivial
theorem full.tw6888438530136737098 : True := trivial
theorem full.tw8317929246273884311 : True := trivial
theorem full.tw1165471384468526413 : True := trivial
theorem full.tw7019417234640167823 : True := trivial
theorem full.tw12534646372283597694 : True := trivial
theorem full.tw6118717043147430520 : True := trivial
theorem full.tw3900135618371658090 : True := trivial
theorem full.tw7278752870399042195 : True := trivial
theorem full.tw10009032721879618461 : True := trivial
theorem full.tw16093713454595483957 : True := trivial
theorem full.tw6839872543804612115 : True := trivial
theorem full.tw13067464236722708260 : True := trivial
theorem full.tw5656626762239266745 : True := trivial
theorem full.tw1312699479271247228 : True := trivial
theorem full.tw12021370625484554874 : True := trivial
theorem full.tw7654592373065313870 : True := trivial
theorem full.tw17088433815945018224 : True := trivial
theorem full.tw11176473078578959018 : True := trivial
theorem full.tw15366602624273109254 : True := trivial
theorem full.tw15535244580015237103 : True := trivial
theorem full.tw10442752806710989835 : True := trivial
theorem full.tw6179000272346577304 : True := trivial
theorem full.tw13179644671268689715 : True := trivial
theorem full.tw11575563310914992923 : True := trivial
theorem full.tw7368405569717055584 : True := trivial
theorem full.tw17775034362751476707 : True := trivial
theorem full.tw16781666043074234 : True := trivial
theorem full.tw4326231988619314065 : True := trivial
theorem full.tw2785345493094400709 : True := trivial
theorem full.tw17942676858139727625 : True := trivial
theorem full.tw10432563577847127286 : True := trivial
theorem full.tw13381362741900151198 : True := trivial
theorem full.tw6433780572305707332 : True := trivial
theorem full.tw6718728020952735092 : True := trivial
theorem full.tw8838997638275687621 : True := trivial
theorem full.tw6815140966758413289 : True := trivial
theorem full.tw8272365368707067837 : True := trivial
theorem full.tw6380568671671786600 : True := trivial
theorem full.tw398036350331335981 : True := trivial
theorem full.tw8796530759083398078 : True := trivial
theorem full.tw10612588733063603657 : True := trivial
theorem full.tw912229808165834479 : True := trivial
theorem full.tw8484872534547232000 : True := trivial
theorem full.tw1788995147439822109 : True := trivial
theorem full.tw10238797713556107170 : True := trivial
theorem full.tw15759552328865419553 : True := trivial
theorem full.tw5752929057913303188 : True := trivial
theorem full.tw5900227713041404788 : True := trivial
theorem full.tw3424675334128828711 : True := trivial
theorem full.tw9675730710353043100 : True := trivial
theorem full.tw17306978474516104573 : True := trivial
theorem full.tw2750089741090838799 : True := trivial
theorem full.tw3757109165687496034 : True := trivial
theorem full.tw6168332711559986063 : True := trivial
theorem full.tw6238324861332237731 : True := trivial
theorem full.tw7029170420720569624 : True := trivial
theorem full.tw7681322970769208196 : True := trivial
theorem full.tw13452974726702105600 : True := trivial
theorem full.tw6254497402431221741 : True := trivial
theorem full.tw3365627905827145847 : True := trivial
theorem full.tw14307324536994792506 : True := trivial
theorem full.tw4274484520674965014 : True := trivial
theorem full.tw12711914571822737951 : True := trivial
theorem full.tw4886751537986119557 : True := trivial
theorem full.tw11431368193745889198 : True := trivial
theorem full.tw12719473426314448481 : True := trivial
theorem full.tw10315239061304165145 : True := trivial
theorem full.tw3088901811664823644 : True := trivial
theorem full.tw376458900780205612 : True := trivial
theorem full.tw2494876273201302684 : True := trivial
theorem full.tw1007651770274241560 : True := trivial
theorem full.tw10399231473978090736 : True := trivial
theorem full.tw17830452192213131111 : True := trivial
theorem full.tw14997944707764041712 : True := trivial
theorem full.tw6353484110739849953 : True := trivial
theorem full.tw10534337724793769776 : True := trivial
theorem full.tw2293397837744657665 : True := trivial
theorem full.tw7600221245181993224 : True := trivial
theorem full.tw3233751410490263057 : True := trivial
theorem full.tw11617974664078190034 : True := trivial
theorem full.tw10853238967582894294 : True := trivial
theorem full.tw6511758891363034882 : True := trivial
theorem full.tw10116231896318920431 : True := trivial
theorem full.tw14702854824975486415 : True := trivial
theorem full.tw13891793165730241541 : True := trivial
theorem full.tw16177985689984295990 : True := trivial
theorem full.tw12144986747767100084 : True := trivial
theorem full.tw3074867405770681381 : True := trivial
theorem full.tw15844961553772315823 : True := trivial
theorem full.tw2718936930896512573 : True := trivial
theorem full.tw15290173765476930018 : True := trivial
theorem full.tw8059249218633905642 : True := trivial
theorem full.tw16343299292989808349 : True := trivial
theorem full.tw16396778489674997278 : True := trivial
theorem full.tw10737930562488058974 : True := trivial
theorem full.tw867479500152442623 : True := trivial
theorem full.tw8711922013781254711 : True := trivial
theorem full.tw10999917518397859550 : True := trivial
theorem full.tw16895622630620874535 : True := trivial
theorem full.tw11638976440873888969 : True := trivial
theorem full.tw7813606124596901338 : True := trivial
theorem full.tw3372920989344433049 : True := trivial
theorem full.tw2944728298462038992 : True := trivial
theorem full.tw376261716764100633 : True := trivial
theorem full.tw17267679152123887330 : True := trivial
theorem full.tw8394791888478915366 : True := trivial
theorem full.tw5925205790368124695 : True := trivial
theorem full.tw11012349392956578955 : True := trivial
theorem full.tw15811999520534011006 : True := trivial
theorem full.tw6266797788551933052 : True := trivial
theorem full.tw2990130216542703942 : True := trivial
theorem full.tw15663911360969588229 : True := trivial
theorem full.tw7665852083740532796 : True := trivial
theorem full.tw17893229296603542793 : True := trivial
theorem full.tw11485654199138315635 : True := trivial
theorem full.tw301061895913993959 : True := trivial
theorem full.tw7243910567644874911 : True := trivial
theorem full.tw13185112928865429174 : True := trivial
theorem full.tw13144082430288965416 : True := trivial
theorem full.tw1574025134456709533 : True := trivial
theorem full.tw17798480564593736690 : True := trivial
theorem full.tw6925235004681894675 : True := trivial
theorem full.tw9463699770342788589 : True := trivial
theorem full.tw1190904048939085871 : True := trivial
theorem full.tw702965199726829560 : True := trivial
theorem full.tw9676820491878665511 : True := trivial
theorem full.tw13525817562136626253 : True := trivial
theorem full.tw10249512165895779554 : True := trivial
theorem full.tw3499303620389611333 : True := trivial
theorem full.tw861858691736949488 : True := trivial
theorem full.tw17826046437098382655 : True := trivial
theorem full.tw13721663335713656880 : True := trivial
theorem full.tw6033910327194577886 : True := trivial
theorem full.tw9915785286758388603 : True := trivial
theorem full.tw8453059038834279213 : True := trivial
theorem full.tw15250601778908348509 : True := trivial
theorem full.tw1425658422261213599 : True := trivial
theorem full.tw203684362631260692 : True := trivial
theorem full.tw15785334572799128889 : True := trivial
theorem full.tw2641395101654740176 : True := trivial
theorem full.tw2140683159224268625 : True := trivial
theorem full.tw9179161777627829999 : True := trivial
theorem full.tw15708569628894568018 : True := trivial
theorem full.tw1169084974209247072 : True := trivial
theorem full.tw15163854439152409748 : True := trivial
theorem full.tw8395922891652165829 : True := trivial
theorem full.tw16983313192677921902 : True := trivial
theorem full.tw14488005885902578913 : True := trivial
theorem full.tw7748246873196882072 : True := trivial
theorem full.tw14384942466131003937 : True := trivial
theorem full.tw7152338250626680552 : True := trivial
theorem full.tw10078132636150966024 : True := trivial
theorem full.tw555674045419488451 : True := trivial
theorem full.tw8387840408119837717 : True := trivial
theorem full.tw2625944693019636661 : True := trivial
theorem full.tw4710281155941848062 : True := trivial
theorem full.tw6973622898331222468 : True := trivial
theorem full.tw6537033937181747727 : True := trivial
theorem full.tw1157664385644375647 : True := trivial
theorem full.tw11112396627551414022 : True := trivial
theorem full.tw12102128691321044491 : True := trivial
theorem full.tw9658682360418020185 : True := trivial
theorem full.tw9348083986326345408 : True := trivial
theorem full.tw14410761036052632689 : True := trivial
theorem full.tw10329653595070241864 : True := trivial
theorem full.tw17666916761589136246 : True := trivial
theorem full.tw15246253752664922406 : True := trivial
theorem full.tw5863997905067684703 : True := trivial
theorem full.tw9563922067563400994 : True := trivial
theorem full.tw11266991028909971805 : True := trivial
theorem full.tw561093364987057203 : True := trivial
theorem full.tw2951289016396797197 : True := trivial
theorem full.tw11343849410264887345 : True := trivial
theorem full.tw8808533989164028730 : True := trivial
theorem full.tw10091948180386365287 : True := trivial
theorem full.tw11481107671344828665 : True := trivial
theorem full.tw6362016340626803907 : True := trivial
theorem full.tw8732766158406282263 : True := trivial
theorem full.tw17934943619282667938 : True := trivial
theorem full.tw9900681996839529863 : True := trivial
theorem full.tw4460633613826036916 : True := trivial
theorem full.tw6099104844284285825 : True := trivial
theorem full.tw1050165620285150729 : True := trivial
theorem full.tw479123237979621619 : True := trivial
theorem full.tw16765017190783481826 : True := trivial
theorem full.tw4816591812421909578 : True := trivial
theorem full.tw7850575594774078160 : True := trivial

set_option Elab.async true
set_option maxHeartbeats 0 in
theorem full : PySem.Challenge.rw_tl0048_01.Holds := by
  w_on; o_law
  o_head (kHook Mine.KK Mine.KA (fun _ => by kernel_rfl))
  (case hw => w_witness2)
  k_go0
  (all_goals try k_fold)
  rename (List Int) => ns
  (rename CellsAre _ _ _ => x0); clear x0
  (rename (Obj.data _ = Data.cell (bindC _ _ _ _)) => e1); (have d5 : Obj.data _ = Data.cell none := e1); clear e1
  (rename (Obj.data _ = Data.cell (bindC _ _ _ _)) => e1); (have d4 : Obj.data _ = Data.cell none := e1); clear e1
  (rename (Obj.data _ = Data.cell (bindC _ _ _ _)) => e1); (have d3 : Obj.data _ = Data.cell none := e1); clear e1
  (rename (Obj.data _ = Data.cell (bindC _ _ _ _)) => e1); (have d2 : Obj.data _ = Data.cell none := e1); clear e1
  (rename (Obj.data _ = Data.cell (bindC _ _ _ _)) => e1); (have d1 : Obj.data _ = Data.cell none := e1); clear e1
  (rename Fr _ _ _ _ => F0); (have F1 : Fr _ _ _ (fun y => if y = Str.ofString "script" then some (.ref _) else none) := F0); clear F0

  have hlen9 : ns.length ≤ 63 := by omega
  refine wpAny_mono (at_le (d := 310) (u := 100) (outer := []) rfl (by exact rfl) (Nat.le_of_ble_eq_true rfl) (Nat.le_of_ble_eq_true rfl) (law_ok _ (by assumption) F1 (by assumption) (by assumption) (by assumption) d1 d2 d3 d4 d5 (by assumption) (by assumption) hlen9 ?_)) (fun _ _ h => h) (fun _ _ h => h.elim)
  intro h' tk' m' kF9
  k_end
  kc_close
end Mine
set_option Elab.async false
theorem PySem.Challenge.cw_tl0048_01_holds : PySem.Challenge.rw_tl0048_01.Holds := by
  exact Mine.full
