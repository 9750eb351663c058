import PyProof.Rows.All
import Wide.All
import OpenK.AllK
import Wide.FinOn
import PySem.Challenge.RW_tl0048_02
set_option Elab.async false
set_option maxRecDepth 100000
set_option linter.unusedVariables false
set_option rowWalk.seconds 0
set_option compiler.extract_closed false
open PySem PySem.W PySem.Calls PySem.Spec PyProof.Rows
namespace Mine
/-- a row of the program's text, by its place; a row of a class -/
noncomputable def topAt (P : Program) (i : Nat) : Stmt := P.main.body.getD i (.Pass ⟨0, 0, 0, 0⟩)
noncomputable def inAt : Stmt → Nat → Stmt
  | .ClassDef _ _ _ b _ _ _ _ _ _ _, i => b.getD i (.Pass ⟨0, 0, 0, 0⟩)
  | _, _ => .Pass ⟨0, 0, 0, 0⟩
/-- a function's parameters, rows and scope, read off the row's program -/
noncomputable def IsFnX (st : Stmt) (a : Arguments) (b : List Stmt) (c : Scope) : Prop := ∃ n d r tp ts bd p, st = .FunctionDef n a b d r tp c ts bd p
set_option maxHeartbeats 0 in
/-- the written part of the top's heap: what the law can reach -/
noncomputable def KK : Params → Frag := by
  refine' (?kf : ∀ (a0F : Arguments) (b0F : List Stmt) (c0F : Scope) (a1F : Arguments) (b1F : List Stmt) (c1F : Scope) (a2F : Arguments) (b2F : List Stmt) (c2F : Scope) (a3F : Arguments) (b3F : List Stmt) (c3F : Scope) (a4F : Arguments) (b4F : List Stmt) (c4F : Scope) (a5F : Arguments) (b5F : List Stmt) (c5F : Scope) (a6F : Arguments) (b6F : List Stmt) (c6F : Scope) (a7F : Arguments) (b7F : List Stmt) (c7F : Scope) (a8F : Arguments) (b8F : List Stmt) (c8F : Scope) (a9F : Arguments) (b9F : List Stmt) (c9F : Scope) (a10F : Arguments) (b10F : List Stmt) (c10F : Scope) (a11F : Arguments) (b11F : List Stmt) (c11F : Scope) (a12F : Arguments) (b12F : List Stmt) (c12F : Scope) (a13F : Arguments) (b13F : List Stmt) (c13F : Scope) (a14F : Arguments) (b14F : List Stmt) (c14F : Scope) (a15F : Arguments) (b15F : List Stmt) (c15F : Scope) (a16F : Arguments) (b16F : List Stmt) (c16F : Scope) (a17F : Arguments) (b17F : List Stmt) (c17F : Scope) (a18F : Arguments) (b18F : List Stmt) (c18F : Scope) (a19F : Arguments) (b19F : List Stmt) (c19F : Scope) (a20F : Arguments) (b20F : List Stmt) (c20F : Scope) (a21F : Arguments) (b21F : List Stmt) (c21F : Scope) (a22F : Arguments) (b22F : List Stmt) (c22F : Scope) (a23F : Arguments) (b23F : List Stmt) (c23F : Scope) (a24F : Arguments) (b24F : List Stmt) (c24F : Scope) (a25F : Arguments) (b25F : List Stmt) (c25F : Scope) (a26F : Arguments) (b26F : List Stmt) (c26F : Scope) (a27F : Arguments) (b27F : List Stmt) (c27F : Scope) (a28F : Arguments) (b28F : List Stmt) (c28F : Scope) (a29F : Arguments) (b29F : List Stmt) (c29F : Scope) (a30F : Arguments) (b30F : List Stmt) (c30F : Scope) (a31F : Arguments) (b31F : List Stmt) (c31F : Scope) (a32F : Arguments) (b32F : List Stmt) (c32F : Scope) (a33F : Arguments) (b33F : List Stmt) (c33F : Scope) (a34F : Arguments) (b34F : List Stmt) (c34F : Scope) (a35F : Arguments) (b35F : List Stmt) (c35F : Scope) (a36F : Arguments) (b36F : List Stmt) (c36F : Scope), IsFnX (topAt PySem.Challenge.pw_tl0048_02 1) a0F b0F c0F → IsFnX (inAt (topAt PySem.Challenge.pw_tl0048_02 3) 1) a1F b1F c1F → IsFnX (inAt (topAt PySem.Challenge.pw_tl0048_02 3) 2) a2F b2F c2F → IsFnX (inAt (topAt PySem.Challenge.pw_tl0048_02 3) 3) a3F b3F c3F → IsFnX (inAt (topAt PySem.Challenge.pw_tl0048_02 3) 4) a4F b4F c4F → IsFnX (inAt (topAt PySem.Challenge.pw_tl0048_02 3) 5) a5F b5F c5F → IsFnX (inAt (topAt PySem.Challenge.pw_tl0048_02 3) 6) a6F b6F c6F → IsFnX (inAt (topAt PySem.Challenge.pw_tl0048_02 3) 7) a7F b7F c7F → IsFnX (topAt PySem.Challenge.pw_tl0048_02 8) a8F b8F c8F → IsFnX (topAt PySem.Challenge.pw_tl0048_02 13) a9F b9F c9F → IsFnX (inAt (topAt PySem.Challenge.pw_tl0048_02 14) 0) a10F b10F c10F → IsFnX (inAt (topAt PySem.Challenge.pw_tl0048_02 14) 1) a11F b11F c11F → IsFnX (inAt (topAt PySem.Challenge.pw_tl0048_02 14) 2) a12F b12F c12F → IsFnX (inAt (topAt PySem.Challenge.pw_tl0048_02 14) 3) a13F b13F c13F → IsFnX (inAt (topAt PySem.Challenge.pw_tl0048_02 14) 4) a14F b14F c14F → IsFnX (inAt (topAt PySem.Challenge.pw_tl0048_02 14) 5) a15F b15F c15F → IsFnX (inAt (topAt PySem.Challenge.pw_tl0048_02 14) 6) a16F b16F c16F → IsFnX (inAt (topAt PySem.Challenge.pw_tl0048_02 14) 7) a17F b17F c17F → IsFnX (inAt (topAt PySem.Challenge.pw_tl0048_02 14) 8) a18F b18F c18F → IsFnX (inAt (topAt PySem.Challenge.pw_tl0048_02 14) 9) a19F b19F c19F → IsFnX (inAt (topAt PySem.Challenge.pw_tl0048_02 14) 10) a20F b20F c20F → IsFnX (inAt (topAt PySem.Challenge.pw_tl0048_02 14) 11) a21F b21F c21F → IsFnX (inAt (topAt PySem.Challenge.pw_tl0048_02 14) 12) a22F b22F c22F → IsFnX (inAt (topAt PySem.Challenge.pw_tl0048_02 14) 13) a23F b23F c23F → IsFnX (inAt (topAt PySem.Challenge.pw_tl0048_02 14) 14) a24F b24F c24F → IsFnX (inAt (topAt PySem.Challenge.pw_tl0048_02 14) 15) a25F b25F c25F → IsFnX (inAt (topAt PySem.Challenge.pw_tl0048_02 14) 16) a26F b26F c26F → IsFnX (topAt PySem.Challenge.pw_tl0048_02 16) a27F b27F c27F → IsFnX (topAt PySem.Challenge.pw_tl0048_02 17) a28F b28F c28F → IsFnX (topAt PySem.Challenge.pw_tl0048_02 18) a29F b29F c29F → IsFnX (topAt PySem.Challenge.pw_tl0048_02 19) a30F b30F c30F → IsFnX (topAt PySem.Challenge.pw_tl0048_02 20) a31F b31F c31F → IsFnX (topAt PySem.Challenge.pw_tl0048_02 21) a32F b32F c32F → IsFnX (topAt PySem.Challenge.pw_tl0048_02 22) a33F b33F c33F → IsFnX (topAt PySem.Challenge.pw_tl0048_02 23) a34F b34F c34F → IsFnX (topAt PySem.Challenge.pw_tl0048_02 24) a35F b35F c35F → IsFnX (topAt PySem.Challenge.pw_tl0048_02 25) a36F b36F c36F → Params → Frag) _ _ _ _ _ _ _ _ _ _ _ _ _ _ _ _ _ _ _ _ _ _ _ _ _ _ _ _ _ _ _ _ _ _ _ _ _ _ _ _ _ _ _ _ _ _ _ _ _ _ _ _ _ _ _ _ _ _ _ _ _ _ _ _ _ _ _ _ _ _ _ _ _ _ _ _ _ _ _ _ _ _ _ _ _ _ _ _ _ _ _ _ _ _ _ _ _ _ _ _ _ _ _ _ _ _ _ _ _ _ _ ⟨_, _, _, _, _, _, _, rfl⟩ ⟨_, _, _, _, _, _, _, rfl⟩ ⟨_, _, _, _, _, _, _, rfl⟩ ⟨_, _, _, _, _, _, _, rfl⟩ ⟨_, _, _, _, _, _, _, rfl⟩ ⟨_, _, _, _, _, _, _, rfl⟩ ⟨_, _, _, _, _, _, _, rfl⟩ ⟨_, _, _, _, _, _, _, rfl⟩ ⟨_, _, _, _, _, _, _, rfl⟩ ⟨_, _, _, _, _, _, _, rfl⟩ ⟨_, _, _, _, _, _, _, rfl⟩ ⟨_, _, _, _, _, _, _, rfl⟩ ⟨_, _, _, _, _, _, _, rfl⟩ ⟨_, _, _, _, _, _, _, rfl⟩ ⟨_, _, _, _, _, _, _, rfl⟩ ⟨_, _, _, _, _, _, _, rfl⟩ ⟨_, _, _, _, _, _, _, rfl⟩ ⟨_, _, _, _, _, _, _, rfl⟩ ⟨_, _, _, _, _, _, _, rfl⟩ ⟨_, _, _, _, _, _, _, rfl⟩ ⟨_, _, _, _, _, _, _, rfl⟩ ⟨_, _, _, _, _, _, _, rfl⟩ ⟨_, _, _, _, _, _, _, rfl⟩ ⟨_, _, _, _, _, _, _, rfl⟩ ⟨_, _, _, _, _, _, _, rfl⟩ ⟨_, _, _, _, _, _, _, rfl⟩ ⟨_, _, _, _, _, _, _, rfl⟩ ⟨_, _, _, _, _, _, _, rfl⟩ ⟨_, _, _, _, _, _, _, rfl⟩ ⟨_, _, _, _, _, _, _, rfl⟩ ⟨_, _, _, _, _, _, _, rfl⟩ ⟨_, _, _, _, _, _, _, rfl⟩ ⟨_, _, _, _, _, _, _, rfl⟩ ⟨_, _, _, _, _, _, _, rfl⟩ ⟨_, _, _, _, _, _, _, rfl⟩ ⟨_, _, _, _, _, _, _, rfl⟩ ⟨_, _, _, _, _, _, _, rfl⟩
  exact fun a0F b0F c0F a1F b1F c1F a2F b2F c2F a3F b3F c3F a4F b4F c4F a5F b5F c5F a6F b6F c6F a7F b7F c7F a8F b8F c8F a9F b9F c9F a10F b10F c10F a11F b11F c11F a12F b12F c12F a13F b13F c13F a14F b14F c14F a15F b15F c15F a16F b16F c16F a17F b17F c17F a18F b18F c18F a19F b19F c19F a20F b20F c20F a21F b21F c21F a22F b22F c22F a23F b23F c23F a24F b24F c24F a25F b25F c25F a26F b26F c26F a27F b27F c27F a28F b28F c28F a29F b29F c29F a30F b30F c30F a31F b31F c31F a32F b32F c32F a33F b33F c33F a34F b34F c34F a35F b35F c35F a36F b36F c36F _ _ _ _ _ _ _ _ _ _ _ _ _ _ _ _ _ _ _ _ _ _ _ _ _ _ _ _ _ _ _ _ _ _ _ _ _ => fun P => (nat_lit 2, { cls := Value.none, data := Data.dict #[{ hash := PyData.keyHash P (Str.ofString "imp\x6frt.loaded._sre"), key := Value.str (Str.ofString "imp\x6frt.loaded._sre") 183, val := Value.bool true }, { hash := PyData.keyHash P (Str.ofString "class._frozen_imp\x6frtlib.BuiltinImporter"), key := Value.str (Str.ofString "class._frozen_imp\x6frtlib.BuiltinImporter") 185, val := Value.ref 14 }, { hash := PyData.keyHash P (Str.ofString "watched.imp\x6frt"), key := Value.str (Str.ofString "watched.imp\x6frt") 206, val := Value.ref 18 }, { hash := PyData.keyHash P (Str.ofString "class._frozen_imp\x6frtlib.ModuleSpec"), key := Value.str (Str.ofString "class._frozen_imp\x6frtlib.ModuleSpec") 216, val := Value.ref 22 }, { hash := PyData.keyHash P (Str.ofString "sys.modules.booked-epoch"), key := Value.str (Str.ofString "sys.modules.booked-epoch") 245, val := Value.int 3 0 }, { hash := PyData.keyHash P (Str.ofString "imp\x6frt.later-laid._sre"), key := Value.str (Str.ofString "imp\x6frt.later-laid._sre") 270, val := Value.bool true }, { hash := PyData.keyHash P (Str.ofString "watched.library"), key := Value.str (Str.ofString "watched.library") 272, val := Value.ref 27 }, { hash := PyData.keyHash P (Str.ofString "watched.library-objects"), key := Value.str (Str.ofString "watched.library-objects") 0, val := Value.str (Str.ofString "\x0c") 0 }, { hash := PyData.keyHash P (Str.ofString "watched.library-deep._sre"), key := Value.str (Str.ofString "watched.library-deep._sre") 273, val := Value.str (Str.ofString "\x04\x00\x00\x0b\x04\x00\x00\x0b\x04\x00\x00\x03\x04\x00\x00\x0b\x08\x04dict\x02") 0 }, { hash := PyData.keyHash P (Str.ofString "type.__subclasses__.Exception.0"), key := Value.str (Str.ofString "type.__subclasses__.Exception.0") 405, val := Value.int 114 0 }, { hash := PyData.keyHash P (Str.ofString "type.__subclasses__.Exception.n"), key := Value.str (Str.ofString "type.__subclasses__.Exception.n") 406, val := Value.int 1 0 }] 11 }) :: (nat_lit 3, { cls := Value.type "dict", data := Data.dict #[{ hash := PyData.keyHash P (Str.ofString "__name__"), key := Value.str (Str.ofString "__name__") 165, val := Value.str (Str.ofString "law_tl0048_02") 719 }, { hash := PyData.keyHash P (Str.ofString "__doc__"), key := Value.str (Str.ofString "__doc__") 166, val := Value.none }, { hash := PyData.keyHash P (Str.ofString "__package__"), key := Value.str (Str.ofString "__package__") 167, val := Value.none }, { hash := PyData.keyHash P (Str.ofString "__loader__"), key := Value.str (Str.ofString "__loader__") 168, val := Value.builtin "__main__.__loader__#opaque" }, { hash := PyData.keyHash P (Str.ofString "__spec__"), key := Value.str (Str.ofString "__spec__") 169, val := Value.none }, { hash := PyData.keyHash P (Str.ofString "__annotations__"), key := Value.str (Str.ofString "__annotations__") 170, val := Value.ref 6 }, { hash := PyData.keyHash P (Str.ofString "__builtins__"), key := Value.str (Str.ofString "__builtins__") 171, val := Value.ref 4 }, { hash := PyData.keyHash P (Str.ofString "__file__"), key := Value.str (Str.ofString "__file__") 173, val := Value.str (Str.ofString "/claim/cut.py") 172 }, { hash := PyData.keyHash P (Str.ofString "__cached__"), key := Value.str (Str.ofString "__cached__") 174, val := Value.none }, { hash := PyData.keyHash P (Str.ofString "_sre"), key := Value.str (Str.ofString "_sre") 275, val := Value.ref 12 }, { hash := PyData.keyHash P (Str.ofString "_wall"), key := Value.str (Str.ofString "_wall") 288, val := Value.ref 38 }, { hash := PyData.keyHash P (Str.ofString "Whitespace"), key := Value.str (Str.ofString "Whitespace") 386, val := Value.ref 100 }, { hash := PyData.keyHash P (Str.ofString "Error"), key := Value.str (Str.ofString "Error") 408, val := Value.ref 114 }, { hash := PyData.keyHash P (Str.ofString "error_reply"), key := Value.str (Str.ofString "error_reply") 424, val := Value.ref 127 }, { hash := PyData.keyHash P (Str.ofString "error_proto"), key := Value.str (Str.ofString "error_proto") 440, val := Value.ref 139 }, { hash := PyData.keyHash P (Str.ofString "parse229"), key := Value.str (Str.ofString "parse229") 453, val := Value.ref 148 }, { hash := PyData.keyHash P (Str.ofString "tspecials"), key := Value.str (Str.ofString "tspecials") 489, val := Value.ref 153 }, { hash := PyData.keyHash P (Str.ofString "_name_disallowed_re"), key := Value.str (Str.ofString "_name_disallowed_re") 515, val := Value.ref 158 }, { hash := PyData.keyHash P (Str.ofString "_value_disallowed_re"), key := Value.str (Str.ofString "_value_disallowed_re") 549, val := Value.ref 163 }, { hash := PyData.keyHash P (Str.ofString "_formatparam"), key := Value.str (Str.ofString "_formatparam") 559, val := Value.ref 171 }, { hash := PyData.keyHash P (Str.ofString "Headers"), key := Value.str (Str.ofString "Headers") 718, val := Value.ref 294 }, { hash := PyData.keyHash P (Str.ofString "_law_reply"), key := Value.str (Str.ofString "_law_reply") 728, val := Value.ref 305 }, { hash := PyData.keyHash P (Str.ofString "_law_table"), key := Value.str (Str.ofString "_law_table") 737, val := Value.ref 312 }, { hash := PyData.keyHash P (Str.ofString "_law_ports"), key := Value.str (Str.ofString "_law_ports") 743, val := Value.ref 317 }, { hash := PyData.keyHash P (Str.ofString "_law_move"), key := Value.str (Str.ofString "_law_move") 749, val := Value.ref 322 }, { hash := PyData.keyHash P (Str.ofString "_law_settle"), key := Value.str (Str.ofString "_law_settle") 759, val := Value.ref 329 }, { hash := PyData.keyHash P (Str.ofString "_law_lead"), key := Value.str (Str.ofString "_law_lead") 765, val := Value.ref 334 }, { hash := PyData.keyHash P (Str.ofString "_law_rows"), key := Value.str (Str.ofString "_law_rows") 771, val := Value.ref 339 }, { hash := PyData.keyHash P (Str.ofString "_law_hooks"), key := Value.str (Str.ofString "_law_hooks") 777, val := Value.ref 344 }, { hash := PyData.keyHash P (Str.ofString "_law_unpaid"), key := Value.str (Str.ofString "_law_unpaid") 783, val := Value.ref 349 }, { hash := PyData.keyHash P (Str.ofString "law"), key := Value.str (Str.ofString "law") 789, val := Value.ref 354 }] 31 }) :: (nat_lit 32, { cls := Value.type "tuple", data := Data.seq #[] }) :: (nat_lit 34, { cls := Value.type "tuple", data := Data.seq #[Value.str (Str.ofString "k") 285] }) :: (nat_lit 35, { cls := Value.type "tuple", data := Data.seq #[] }) :: (nat_lit 37, { cls := Value.type "code", data := Data.fields #[Value.str (Str.ofString "_wall") 282, Value.str (Str.ofString "_wall") 283, Value.str (Str.ofString "/claim/cut.py") 284, Value.int 2 0, Value.int 1 0, Value.int 0 0, Value.int 0 0, Value.int 3 0, Value.ref 32, Value.bool true, Value.int 276 0, Value.ref 33, Value.none, Value.ref 34, Value.ref 35, Value.ref 36, Value.int 286 0, Value.int 2 0, Value.str (Str.ofString "/claim/cut.py") 287] }) :: (nat_lit 38, { cls := Value.type "function", data := Data.func { name := Str.ofString "_wall", qualname := Str.ofString "_wall", params := a0F, body := FuncBody.stmts b0F, scope := c0F, globals := 3, closure := [], defaults := Value.none, kwdefaults := Value.none, pyModule := Value.str (Str.ofString "__main__") 164, code := Value.ref 37 } }) :: (nat_lit 49, { cls := Value.type "tuple", data := Data.seq #[] }) :: (nat_lit 51, { cls := Value.type "tuple", data := Data.seq #[Value.str (Str.ofString "self") 311, Value.str (Str.ofString "ws") 312, Value.str (Str.ofString "S") 313, Value.str (Str.ofString "T") 314, Value.str (Str.ofString "count") 315, Value.str (Str.ofString "b") 316, Value.str (Str.ofString "n") 317, Value.str (Str.ofString "nt") 318, Value.str (Str.ofString "ch") 319] }) :: (nat_lit 52, { cls := Value.type "tuple", data := Data.seq #[] }) :: (nat_lit 54, { cls := Value.type "code", data := Data.fields #[Value.str (Str.ofString "__init__") 308, Value.str (Str.ofString "Whitespace.__init__") 309, Value.str (Str.ofString "/claim/cut.py") 310, Value.int 9 0, Value.int 2 0, Value.int 0 0, Value.int 0 0, Value.int 3 0, Value.ref 49, Value.bool true, Value.int 276 0, Value.ref 50, Value.none, Value.ref 51, Value.ref 52, Value.ref 53, Value.int 320 0, Value.int 9 0, Value.str (Str.ofString "/claim/cut.py") 321] }) :: (nat_lit 55, { cls := Value.type "function", data := Data.func { name := Str.ofString "__init__", qualname := Str.ofString "Whitespace.__init__", params := a1F, body := FuncBody.stmts b1F, scope := c1F, globals := 3, closure := [], defaults := Value.none, kwdefaults := Value.none, pyModule := Value.str (Str.ofString "cpy313.tabnanny") 289, code := Value.ref 54 } }) :: (nat_lit 56, { cls := Value.type "tuple", data := Data.seq #[] }) :: (nat_lit 58, { cls := Value.type "tuple", data := Data.seq #[Value.str (Str.ofString "self") 326] }) :: (nat_lit 59, { cls := Value.type "tuple", data := Data.seq #[] }) :: (nat_lit 61, { cls := Value.type "code", data := Data.fields #[Value.str (Str.ofString "longest_run_of_spaces") 323, Value.str (Str.ofString "Whitespace.longest_run_of_spaces") 324, Value.str (Str.ofString "/claim/cut.py") 325, Value.int 32 0, Value.int 1 0, Value.int 0 0, Value.int 0 0, Value.int 3 0, Value.ref 56, Value.bool true, Value.int 276 0, Value.ref 57, Value.none, Value.ref 58, Value.ref 59, Value.ref 60, Value.int 327 0, Value.int 32 0, Value.str (Str.ofString "/claim/cut.py") 328] }) :: (nat_lit 62, { cls := Value.type "function", data := Data.func { name := Str.ofString "longest_run_of_spaces", qualname := Str.ofString "Whitespace.longest_run_of_spaces", params := a2F, body := FuncBody.stmts b2F, scope := c2F, globals := 3, closure := [], defaults := Value.none, kwdefaults := Value.none, pyModule := Value.str (Str.ofString "cpy313.tabnanny") 289, code := Value.ref 61 } }) :: (nat_lit 63, { cls := Value.type "tuple", data := Data.seq #[] }) :: (nat_lit 65, { cls := Value.type "tuple", data := Data.seq #[Value.str (Str.ofString "self") 333, Value.str (Str.ofString "tabsize") 334, Value.str (Str.ofString "count") 335, Value.str (Str.ofString "trailing") 336, Value.str (Str.ofString "il") 337, Value.str (Str.ofString "i") 338] }) :: (nat_lit 66, { cls := Value.type "tuple", data := Data.seq #[] }) :: (nat_lit 68, { cls := Value.type "code", data := Data.fields #[Value.str (Str.ofString "indent_level") 330, Value.str (Str.ofString "Whitespace.indent_level") 331, Value.str (Str.ofString "/claim/cut.py") 332, Value.int 35 0, Value.int 2 0, Value.int 0 0, Value.int 0 0, Value.int 3 0, Value.ref 63, Value.bool true, Value.int 276 0, Value.ref 64, Value.none, Value.ref 65, Value.ref 66, Value.ref 67, Value.int 339 0, Value.int 35 0, Value.str (Str.ofString "/claim/cut.py") 340] }) :: (nat_lit 69, { cls := Value.type "function", data := Data.func { name := Str.ofString "indent_level", qualname := Str.ofString "Whitespace.indent_level", params := a3F, body := FuncBody.stmts b3F, scope := c3F, globals := 3, closure := [], defaults := Value.none, kwdefaults := Value.none, pyModule := Value.str (Str.ofString "cpy313.tabnanny") 289, code := Value.ref 68 } }) :: (nat_lit 70, { cls := Value.type "tuple", data := Data.seq #[] }) :: (nat_lit 72, { cls := Value.type "tuple", data := Data.seq #[Value.str (Str.ofString "self") 345, Value.str (Str.ofString "other") 346] }) :: (nat_lit 73, { cls := Value.type "tuple", data := Data.seq #[] }) :: (nat_lit 75, { cls := Value.type "code", data := Data.fields #[Value.str (Str.ofString "equal") 342, Value.str (Str.ofString "Whitespace.equal") 343, Value.str (Str.ofString "/claim/cut.py") 344, Value.int 42 0, Value.int 2 0, Value.int 0 0, Value.int 0 0, Value.int 3 0, Value.ref 70, Value.bool true, Value.int 276 0, Value.ref 71, Value.none, Value.ref 72, Value.ref 73, Value.ref 74, Value.int 347 0, Value.int 42 0, Value.str (Str.ofString "/claim/cut.py") 348] }) :: (nat_lit 76, { cls := Value.type "function", data := Data.func { name := Str.ofString "equal", qualname := Str.ofString "Whitespace.equal", params := a4F, body := FuncBody.stmts b4F, scope := c4F, globals := 3, closure := [], defaults := Value.none, kwdefaults := Value.none, pyModule := Value.str (Str.ofString "cpy313.tabnanny") 289, code := Value.ref 75 } }) :: (nat_lit 77, { cls := Value.type "tuple", data := Data.seq #[] }) :: (nat_lit 79, { cls := Value.type "tuple", data := Data.seq #[Value.str (Str.ofString "self") 353, Value.str (Str.ofString "other") 354] }) :: (nat_lit 80, { cls := Value.type "tuple", data := Data.seq #[] }) :: (nat_lit 82, { cls := Value.type "code", data := Data.fields #[Value.str (Str.ofString "not_equal_witness") 350, Value.str (Str.ofString "Whitespace.not_equal_witness") 351, Value.str (Str.ofString "/claim/cut.py") 352, Value.int 45 0, Value.int 2 0, Value.int 0 0, Value.int 0 0, Value.int 3 0, Value.ref 77, Value.bool true, Value.int 276 0, Value.ref 78, Value.none, Value.ref 79, Value.ref 80, Value.ref 81, Value.int 355 0, Value.int 45 0, Value.str (Str.ofString "/claim/cut.py") 356] }) :: (nat_lit 83, { cls := Value.type "function", data := Data.func { name := Str.ofString "not_equal_witness", qualname := Str.ofString "Whitespace.not_equal_witness", params := a5F, body := FuncBody.stmts b5F, scope := c5F, globals := 3, closure := [], defaults := Value.none, kwdefaults := Value.none, pyModule := Value.str (Str.ofString "cpy313.tabnanny") 289, code := Value.ref 82 } }) :: (nat_lit 84, { cls := Value.type "tuple", data := Data.seq #[] }) :: (nat_lit 86, { cls := Value.type "tuple", data := Data.seq #[Value.str (Str.ofString "self") 361, Value.str (Str.ofString "other") 362] }) :: (nat_lit 87, { cls := Value.type "tuple", data := Data.seq #[] }) :: (nat_lit 89, { cls := Value.type "code", data := Data.fields #[Value.str (Str.ofString "less") 358, Value.str (Str.ofString "Whitespace.less") 359, Value.str (Str.ofString "/claim/cut.py") 360, Value.int 48 0, Value.int 2 0, Value.int 0 0, Value.int 0 0, Value.int 3 0, Value.ref 84, Value.bool true, Value.int 276 0, Value.ref 85, Value.none, Value.ref 86, Value.ref 87, Value.ref 88, Value.int 363 0, Value.int 48 0, Value.str (Str.ofString "/claim/cut.py") 364] }) :: (nat_lit 90, { cls := Value.type "function", data := Data.func { name := Str.ofString "less", qualname := Str.ofString "Whitespace.less", params := a6F, body := FuncBody.stmts b6F, scope := c6F, globals := 3, closure := [], defaults := Value.none, kwdefaults := Value.none, pyModule := Value.str (Str.ofString "cpy313.tabnanny") 289, code := Value.ref 89 } }) :: (nat_lit 91, { cls := Value.type "tuple", data := Data.seq #[] }) :: (nat_lit 93, { cls := Value.type "tuple", data := Data.seq #[Value.str (Str.ofString "self") 369, Value.str (Str.ofString "other") 370] }) :: (nat_lit 94, { cls := Value.type "tuple", data := Data.seq #[] }) :: (nat_lit 96, { cls := Value.type "code", data := Data.fields #[Value.str (Str.ofString "not_less_witness") 366, Value.str (Str.ofString "Whitespace.not_less_witness") 367, Value.str (Str.ofString "/claim/cut.py") 368, Value.int 51 0, Value.int 2 0, Value.int 0 0, Value.int 0 0, Value.int 3 0, Value.ref 91, Value.bool true, Value.int 276 0, Value.ref 92, Value.none, Value.ref 93, Value.ref 94, Value.ref 95, Value.int 371 0, Value.int 51 0, Value.str (Str.ofString "/claim/cut.py") 372] }) :: (nat_lit 97, { cls := Value.type "function", data := Data.func { name := Str.ofString "not_less_witness", qualname := Str.ofString "Whitespace.not_less_witness", params := a7F, body := FuncBody.stmts b7F, scope := c7F, globals := 3, closure := [], defaults := Value.none, kwdefaults := Value.none, pyModule := Value.str (Str.ofString "cpy313.tabnanny") 289, code := Value.ref 96 } }) :: (nat_lit 98, { cls := Value.type "tuple", data := Data.seq #[Value.str (Str.ofString "is_simple") 374, Value.str (Str.ofString "n") 375, Value.str (Str.ofString "norm") 376, Value.str (Str.ofString "nt") 377, Value.str (Str.ofString "raw") 378] }) :: (nat_lit 99, { cls := Value.type "dict", data := Data.dict #[{ hash := PyData.keyHash P (Str.ofString "__module__"), key := Value.str (Str.ofString "__module__") 298, val := Value.str (Str.ofString "cpy313.tabnanny") 289 }, { hash := PyData.keyHash P (Str.ofString "__firstlineno__"), key := Value.str (Str.ofString "__firstlineno__") 302, val := Value.int 6 301 }, { hash := PyData.keyHash P (Str.ofString "S"), key := Value.str (Str.ofString "S") 306, val := Value.str (Str.ofString " ") 304 }, { hash := PyData.keyHash P (Str.ofString "T"), key := Value.str (Str.ofString "T") 307, val := Value.str (Str.ofString "\t") 305 }, { hash := PyData.keyHash P (Str.ofString "__init__"), key := Value.str (Str.ofString "__init__") 322, val := Value.ref 55 }, { hash := PyData.keyHash P (Str.ofString "longest_run_of_spaces"), key := Value.str (Str.ofString "longest_run_of_spaces") 329, val := Value.ref 62 }, { hash := PyData.keyHash P (Str.ofString "indent_level"), key := Value.str (Str.ofString "indent_level") 341, val := Value.ref 69 }, { hash := PyData.keyHash P (Str.ofString "equal"), key := Value.str (Str.ofString "equal") 349, val := Value.ref 76 }, { hash := PyData.keyHash P (Str.ofString "not_equal_witness"), key := Value.str (Str.ofString "not_equal_witness") 357, val := Value.ref 83 }, { hash := PyData.keyHash P (Str.ofString "less"), key := Value.str (Str.ofString "less") 365, val := Value.ref 90 }, { hash := PyData.keyHash P (Str.ofString "not_less_witness"), key := Value.str (Str.ofString "not_less_witness") 373, val := Value.ref 97 }, { hash := PyData.keyHash P (Str.ofString "__static_attributes__"), key := Value.str (Str.ofString "__static_attributes__") 379, val := Value.ref 98 }, { hash := PyData.keyHash P (Str.ofString "__dict__"), key := Value.str (Str.ofString "__dict__") 381, val := Value.ref 101 }, { hash := PyData.keyHash P (Str.ofString "__weakref__"), key := Value.str (Str.ofString "__weakref__") 383, val := Value.ref 102 }, { hash := PyData.keyHash P (Str.ofString "__doc__"), key := Value.str (Str.ofString "__doc__") 384, val := Value.none }] 4 }) :: (nat_lit 100, { cls := Value.type "type", data := Data.cls { name := Str.ofString "Whitespace", bases := [Value.type "object"], mro := [Value.ref 100, Value.type "object"], ns := 99, qualname := Str.ofString "Whitespace" }, slots := #[none, none, some (Value.str (Str.ofString "Whitespace") 291), some (Value.str (Str.ofString "Whitespace") 299), some (Value.builtin "object.__new__"), some (Value.bool true)] }) :: (nat_lit 101, { cls := Value.type "getset_descriptor", data := Data.fields #[Value.str (Str.ofString "__dict__") 380, Value.ref 100, Value.builtin "function.__dict__", Value.builtin "function.__dict__#set"] }) :: (nat_lit 102, { cls := Value.type "getset_descriptor", data := Data.fields #[Value.str (Str.ofString "__weakref__") 382, Value.ref 100, Value.builtin "ExceptionGroup.__weakref__", Value.none] }) :: (nat_lit 105, { cls := Value.type "tuple", data := Data.seq #[Value.type "Exception"] }) :: (nat_lit 112, { cls := Value.type "tuple", data := Data.seq #[] }) :: (nat_lit 113, { cls := Value.type "dict", data := Data.dict #[{ hash := PyData.keyHash P (Str.ofString "__module__"), key := Value.str (Str.ofString "__module__") 396, val := Value.str (Str.ofString "cpy313.ftplib") 387 }, { hash := PyData.keyHash P (Str.ofString "__firstlineno__"), key := Value.str (Str.ofString "__firstlineno__") 400, val := Value.int 54 399 }, { hash := PyData.keyHash P (Str.ofString "__static_attributes__"), key := Value.str (Str.ofString "__static_attributes__") 401, val := Value.ref 112 }, { hash := PyData.keyHash P (Str.ofString "__weakref__"), key := Value.str (Str.ofString "__weakref__") 403, val := Value.ref 115 }, { hash := PyData.keyHash P (Str.ofString "__doc__"), key := Value.str (Str.ofString "__doc__") 404, val := Value.none }] 3 }) :: (nat_lit 114, { cls := Value.type "type", data := Data.cls { name := Str.ofString "Error", bases := [Value.type "Exception"], mro := [Value.ref 114, Value.type "Exception", Value.type "BaseException", Value.type "object"], ns := 113, qualname := Str.ofString "Error", subclasses := [Value.ref 127, Value.ref 139] }, slots := #[some (Value.ref 105), none, some (Value.str (Str.ofString "Error") 389), some (Value.str (Str.ofString "Error") 397), some (Value.builtin "Exception.__new__"), some (Value.bool true)] }) :: (nat_lit 115, { cls := Value.type "getset_descriptor", data := Data.fields #[Value.str (Str.ofString "__weakref__") 402, Value.ref 114, Value.builtin "ExceptionGroup.__weakref__", Value.none] }) :: (nat_lit 118, { cls := Value.type "tuple", data := Data.seq #[Value.ref 114] }) :: (nat_lit 125, { cls := Value.type "tuple", data := Data.seq #[] }) :: (nat_lit 126, { cls := Value.type "dict", data := Data.dict #[{ hash := PyData.keyHash P (Str.ofString "__module__"), key := Value.str (Str.ofString "__module__") 416, val := Value.str (Str.ofString "cpy313.ftplib") 387 }, { hash := PyData.keyHash P (Str.ofString "__firstlineno__"), key := Value.str (Str.ofString "__firstlineno__") 420, val := Value.int 56 419 }, { hash := PyData.keyHash P (Str.ofString "__static_attributes__"), key := Value.str (Str.ofString "__static_attributes__") 421, val := Value.ref 125 }, { hash := PyData.keyHash P (Str.ofString "__doc__"), key := Value.str (Str.ofString "__doc__") 422, val := Value.none }] 2 }) :: (nat_lit 127, { cls := Value.type "type", data := Data.cls { name := Str.ofString "error_reply", bases := [Value.ref 114], mro := [Value.ref 127, Value.ref 114, Value.type "Exception", Value.type "BaseException", Value.type "object"], ns := 126, qualname := Str.ofString "error_reply" }, slots := #[some (Value.ref 118), none, some (Value.str (Str.ofString "error_reply") 409), some (Value.str (Str.ofString "error_reply") 417), some (Value.builtin "Exception.__new__"), some (Value.bool true)] }) :: (nat_lit 130, { cls := Value.type "tuple", data := Data.seq #[Value.ref 114] }) :: (nat_lit 137, { cls := Value.type "tuple", data := Data.seq #[] }) :: (nat_lit 138, { cls := Value.type "dict", data := Data.dict #[{ hash := PyData.keyHash P (Str.ofString "__module__"), key := Value.str (Str.ofString "__module__") 432, val := Value.str (Str.ofString "cpy313.ftplib") 387 }, { hash := PyData.keyHash P (Str.ofString "__firstlineno__"), key := Value.str (Str.ofString "__firstlineno__") 436, val := Value.int 58 435 }, { hash := PyData.keyHash P (Str.ofString "__static_attributes__"), key := Value.str (Str.ofString "__static_attributes__") 437, val := Value.ref 137 }, { hash := PyData.keyHash P (Str.ofString "__doc__"), key := Value.str (Str.ofString "__doc__") 438, val := Value.none }] 2 }) :: (nat_lit 139, { cls := Value.type "type", data := Data.cls { name := Str.ofString "error_proto", bases := [Value.ref 114], mro := [Value.ref 139, Value.ref 114, Value.type "Exception", Value.type "BaseException", Value.type "object"], ns := 138, qualname := Str.ofString "error_proto" }, slots := #[some (Value.ref 130), none, some (Value.str (Str.ofString "error_proto") 425), some (Value.str (Str.ofString "error_proto") 433), some (Value.builtin "Exception.__new__"), some (Value.bool true)] }) :: (nat_lit 142, { cls := Value.type "tuple", data := Data.seq #[] }) :: (nat_lit 144, { cls := Value.type "tuple", data := Data.seq #[Value.str (Str.ofString "resp") 444, Value.str (Str.ofString "peer") 445, Value.str (Str.ofString "left") 446, Value.str (Str.ofString "right") 447, Value.str (Str.ofString "parts") 448, Value.str (Str.ofString "host") 449, Value.str (Str.ofString "port") 450] }) :: (nat_lit 145, { cls := Value.type "tuple", data := Data.seq #[] }) :: (nat_lit 147, { cls := Value.type "code", data := Data.fields #[Value.str (Str.ofString "parse229") 441, Value.str (Str.ofString "parse229") 442, Value.str (Str.ofString "/claim/cut.py") 443, Value.int 60 0, Value.int 2 0, Value.int 0 0, Value.int 0 0, Value.int 3 0, Value.ref 142, Value.bool true, Value.int 276 0, Value.ref 143, Value.none, Value.ref 144, Value.ref 145, Value.ref 146, Value.int 451 0, Value.int 60 0, Value.str (Str.ofString "/claim/cut.py") 452] }) :: (nat_lit 148, { cls := Value.type "function", data := Data.func { name := Str.ofString "parse229", qualname := Str.ofString "parse229", params := a8F, body := FuncBody.stmts b8F, scope := c8F, globals := 3, closure := [], defaults := Value.none, kwdefaults := Value.none, pyModule := Value.str (Str.ofString "cpy313.ftplib") 387, code := Value.ref 147 } }) :: (nat_lit 152, { cls := Value.type "tuple", data := Data.seq #[Value.int 14 0, Value.int 14 0, Value.int 4 0, Value.int 1 0, Value.int 1 0, Value.int 9 0, Value.int 0 0, Value.int 4227896069 0, Value.int 939524097 0, Value.int 0 0, Value.int 0 0, Value.int 0 0, Value.int 0 0, Value.int 0 0, Value.int 0 0, Value.int 13 0, Value.int 11 0, Value.int 9 0, Value.int 0 0, Value.int 4227896069 0, Value.int 939524097 0, Value.int 0 0, Value.int 0 0, Value.int 0 0, Value.int 0 0, Value.int 0 0, Value.int 0 0, Value.int 1 0] }) :: (nat_lit 153, { cls := Value.type "re.Pattern", data := Data.fields #[Value.str (Str.ofString "[ \\(\\)<>@,;:\\\\\"/\\[\\]\\?=]") 457, Value.int 32 488, Value.int 0 0, Value.none, Value.none, Value.ref 152, Value.int 0 0] }) :: (nat_lit 157, { cls := Value.type "tuple", data := Data.seq #[Value.int 14 0, Value.int 10 0, Value.int 4 0, Value.int 1 0, Value.int 1 0, Value.int 22 0, Value.int 0 0, Value.int 31 0, Value.int 16 0, Value.int 127 0, Value.int 0 0, Value.int 13 0, Value.int 7 0, Value.int 22 0, Value.int 0 0, Value.int 31 0, Value.int 16 0, Value.int 127 0, Value.int 0 0, Value.int 1 0] }) :: (nat_lit 158, { cls := Value.type "re.Pattern", data := Data.fields #[Value.str (Str.ofString "[\\x00-\\x1F\\x7F]") 491, Value.int 32 514, Value.int 0 0, Value.none, Value.none, Value.ref 157, Value.int 0 0] }) :: (nat_lit 162, { cls := Value.type "tuple", data := Data.seq #[Value.int 14 0, Value.int 14 0, Value.int 4 0, Value.int 1 0, Value.int 1 0, Value.int 9 0, Value.int 4294966783 0, Value.int 0 0, Value.int 0 0, Value.int 2147483648 0, Value.int 0 0, Value.int 0 0, Value.int 0 0, Value.int 0 0, Value.int 0 0, Value.int 13 0, Value.int 11 0, Value.int 9 0, Value.int 4294966783 0, Value.int 0 0, Value.int 0 0, Value.int 2147483648 0, Value.int 0 0, Value.int 0 0, Value.int 0 0, Value.int 0 0, Value.int 0 0, Value.int 1 0] }) :: (nat_lit 163, { cls := Value.type "re.Pattern", data := Data.fields #[Value.str (Str.ofString "[\\x00-\\x08\\x0A-\\x1F\\x7F]") 517, Value.int 32 548, Value.int 0 0, Value.none, Value.none, Value.ref 162, Value.int 0 0] }) :: (nat_lit 164, { cls := Value.type "tuple", data := Data.seq #[Value.none, Value.int 1 550] }) :: (nat_lit 165, { cls := Value.type "tuple", data := Data.seq #[] }) :: (nat_lit 167, { cls := Value.type "tuple", data := Data.seq #[Value.str (Str.ofString "param") 554, Value.str (Str.ofString "value") 555, Value.str (Str.ofString "quote") 556] }) :: (nat_lit 168, { cls := Value.type "tuple", data := Data.seq #[] }) :: (nat_lit 170, { cls := Value.type "code", data := Data.fields #[Value.str (Str.ofString "_formatparam") 551, Value.str (Str.ofString "_formatparam") 552, Value.str (Str.ofString "/claim/cut.py") 553, Value.int 81 0, Value.int 3 0, Value.int 0 0, Value.int 0 0, Value.int 3 0, Value.ref 165, Value.bool true, Value.int 276 0, Value.ref 166, Value.none, Value.ref 167, Value.ref 168, Value.ref 169, Value.int 557 0, Value.int 81 0, Value.str (Str.ofString "/claim/cut.py") 558] }) :: (nat_lit 171, { cls := Value.type "function", data := Data.func { name := Str.ofString "_formatparam", qualname := Str.ofString "_formatparam", params := a9F, body := FuncBody.stmts b9F, scope := c9F, globals := 3, closure := [], defaults := Value.ref 164, kwdefaults := Value.none, pyModule := Value.str (Str.ofString "cpy313.wsgiref.headers") 454, code := Value.ref 170 } }) :: (nat_lit 179, { cls := Value.type "tuple", data := Data.seq #[Value.none] }) :: (nat_lit 180, { cls := Value.type "tuple", data := Data.seq #[] }) :: (nat_lit 182, { cls := Value.type "tuple", data := Data.seq #[Value.str (Str.ofString "self") 575, Value.str (Str.ofString "headers") 576, Value.str (Str.ofString "k") 577, Value.str (Str.ofString "v") 578] }) :: (nat_lit 183, { cls := Value.type "tuple", data := Data.seq #[] }) :: (nat_lit 185, { cls := Value.type "code", data := Data.fields #[Value.str (Str.ofString "__init__") 572, Value.str (Str.ofString "Headers.__init__") 573, Value.str (Str.ofString "/claim/cut.py") 574, Value.int 92 0, Value.int 2 0, Value.int 0 0, Value.int 0 0, Value.int 3 0, Value.ref 180, Value.bool true, Value.int 276 0, Value.ref 181, Value.none, Value.ref 182, Value.ref 183, Value.ref 184, Value.int 579 0, Value.int 92 0, Value.str (Str.ofString "/claim/cut.py") 580] }) :: (nat_lit 186, { cls := Value.type "function", data := Data.func { name := Str.ofString "__init__", qualname := Str.ofString "Headers.__init__", params := a10F, body := FuncBody.stmts b10F, scope := c10F, globals := 3, closure := [], defaults := Value.ref 179, kwdefaults := Value.none, pyModule := Value.str (Str.ofString "cpy313.wsgiref.headers") 454, code := Value.ref 185 } }) :: (nat_lit 187, { cls := Value.type "tuple", data := Data.seq #[] }) :: (nat_lit 189, { cls := Value.type "tuple", data := Data.seq #[Value.str (Str.ofString "self") 585, Value.str (Str.ofString "value") 586, Value.str (Str.ofString "name") 587, Value.str (Str.ofString "regex") 588] }) :: (nat_lit 190, { cls := Value.type "tuple", data := Data.seq #[] }) :: (nat_lit 192, { cls := Value.type "code", data := Data.fields #[Value.str (Str.ofString "_convert_string_type") 582, Value.str (Str.ofString "Headers._convert_string_type") 583, Value.str (Str.ofString "/claim/cut.py") 584, Value.int 102 0, Value.int 2 0, Value.int 0 0, Value.int 1 0, Value.int 3 0, Value.ref 187, Value.bool true, Value.int 276 0, Value.ref 188, Value.none, Value.ref 189, Value.ref 190, Value.ref 191, Value.int 589 0, Value.int 102 0, Value.str (Str.ofString "/claim/cut.py") 590] }) :: (nat_lit 193, { cls := Value.type "function", data := Data.func { name := Str.ofString "_convert_string_type", qualname := Str.ofString "Headers._convert_string_type", params := a11F, body := FuncBody.stmts b11F, scope := c11F, globals := 3, closure := [], defaults := Value.none, kwdefaults := Value.none, pyModule := Value.str (Str.ofString "cpy313.wsgiref.headers") 454, code := Value.ref 192 } }) :: (nat_lit 194, { cls := Value.type "tuple", data := Data.seq #[] }) :: (nat_lit 196, { cls := Value.type "tuple", data := Data.seq #[Value.str (Str.ofString "self") 595] }) :: (nat_lit 197, { cls := Value.type "tuple", data := Data.seq #[] }) :: (nat_lit 199, { cls := Value.type "code", data := Data.fields #[Value.str (Str.ofString "__len__") 592, Value.str (Str.ofString "Headers.__len__") 593, Value.str (Str.ofString "/claim/cut.py") 594, Value.int 110 0, Value.int 1 0, Value.int 0 0, Value.int 0 0, Value.int 3 0, Value.ref 194, Value.bool true, Value.int 276 0, Value.ref 195, Value.none, Value.ref 196, Value.ref 197, Value.ref 198, Value.int 596 0, Value.int 110 0, Value.str (Str.ofString "/claim/cut.py") 597] }) :: (nat_lit 200, { cls := Value.type "function", data := Data.func { name := Str.ofString "__len__", qualname := Str.ofString "Headers.__len__", params := a12F, body := FuncBody.stmts b12F, scope := c12F, globals := 3, closure := [], defaults := Value.none, kwdefaults := Value.none, pyModule := Value.str (Str.ofString "cpy313.wsgiref.headers") 454, code := Value.ref 199 } }) :: (nat_lit 201, { cls := Value.type "tuple", data := Data.seq #[] }) :: (nat_lit 203, { cls := Value.type "tuple", data := Data.seq #[Value.str (Str.ofString "self") 602, Value.str (Str.ofString "name") 603, Value.str (Str.ofString "val") 604] }) :: (nat_lit 204, { cls := Value.type "tuple", data := Data.seq #[] }) :: (nat_lit 206, { cls := Value.type "code", data := Data.fields #[Value.str (Str.ofString "__setitem__") 599, Value.str (Str.ofString "Headers.__setitem__") 600, Value.str (Str.ofString "/claim/cut.py") 601, Value.int 113 0, Value.int 3 0, Value.int 0 0, Value.int 0 0, Value.int 3 0, Value.ref 201, Value.bool true, Value.int 276 0, Value.ref 202, Value.none, Value.ref 203, Value.ref 204, Value.ref 205, Value.int 605 0, Value.int 113 0, Value.str (Str.ofString "/claim/cut.py") 606] }) :: (nat_lit 207, { cls := Value.type "function", data := Data.func { name := Str.ofString "__setitem__", qualname := Str.ofString "Headers.__setitem__", params := a13F, body := FuncBody.stmts b13F, scope := c13F, globals := 3, closure := [], defaults := Value.none, kwdefaults := Value.none, pyModule := Value.str (Str.ofString "cpy313.wsgiref.headers") 454, code := Value.ref 206 } }) :: (nat_lit 208, { cls := Value.type "tuple", data := Data.seq #[] }) :: (nat_lit 211, { cls := Value.type "code", data := Data.fields #[Value.str (Str.ofString "__delitem__") 608, Value.str (Str.ofString "Headers.__delitem__") 609, Value.str (Str.ofString "/claim/cut.py") 610, Value.int 117 0, Value.int 2 0, Value.int 0 0, Value.int 0 0, Value.int 3 0, Value.ref 208, Value.bool true, Value.int 276 0, Value.ref 209, Value.none, Value.none, Value.none, Value.ref 210, Value.int 611 0, Value.int 117 0, Value.str (Str.ofString "/claim/cut.py") 612] }) :: (nat_lit 212, { cls := Value.type "function", data := Data.func { name := Str.ofString "__delitem__", qualname := Str.ofString "Headers.__delitem__", params := a14F, body := FuncBody.stmts b14F, scope := c14F, globals := 3, closure := [], defaults := Value.none, kwdefaults := Value.none, pyModule := Value.str (Str.ofString "cpy313.wsgiref.headers") 454, code := Value.ref 211 } }) :: (nat_lit 213, { cls := Value.type "tuple", data := Data.seq #[] }) :: (nat_lit 215, { cls := Value.type "tuple", data := Data.seq #[Value.str (Str.ofString "self") 617, Value.str (Str.ofString "name") 618] }) :: (nat_lit 216, { cls := Value.type "tuple", data := Data.seq #[] }) :: (nat_lit 218, { cls := Value.type "code", data := Data.fields #[Value.str (Str.ofString "__getitem__") 614, Value.str (Str.ofString "Headers.__getitem__") 615, Value.str (Str.ofString "/claim/cut.py") 616, Value.int 121 0, Value.int 2 0, Value.int 0 0, Value.int 0 0, Value.int 3 0, Value.ref 213, Value.bool true, Value.int 276 0, Value.ref 214, Value.none, Value.ref 215, Value.ref 216, Value.ref 217, Value.int 619 0, Value.int 121 0, Value.str (Str.ofString "/claim/cut.py") 620] }) :: (nat_lit 219, { cls := Value.type "function", data := Data.func { name := Str.ofString "__getitem__", qualname := Str.ofString "Headers.__getitem__", params := a15F, body := FuncBody.stmts b15F, scope := c15F, globals := 3, closure := [], defaults := Value.none, kwdefaults := Value.none, pyModule := Value.str (Str.ofString "cpy313.wsgiref.headers") 454, code := Value.ref 218 } }) :: (nat_lit 220, { cls := Value.type "tuple", data := Data.seq #[] }) :: (nat_lit 222, { cls := Value.type "tuple", data := Data.seq #[Value.str (Str.ofString "self") 625, Value.str (Str.ofString "name") 626] }) :: (nat_lit 223, { cls := Value.type "tuple", data := Data.seq #[] }) :: (nat_lit 225, { cls := Value.type "code", data := Data.fields #[Value.str (Str.ofString "__contains__") 622, Value.str (Str.ofString "Headers.__contains__") 623, Value.str (Str.ofString "/claim/cut.py") 624, Value.int 124 0, Value.int 2 0, Value.int 0 0, Value.int 0 0, Value.int 3 0, Value.ref 220, Value.bool true, Value.int 276 0, Value.ref 221, Value.none, Value.ref 222, Value.ref 223, Value.ref 224, Value.int 627 0, Value.int 124 0, Value.str (Str.ofString "/claim/cut.py") 628] }) :: (nat_lit 226, { cls := Value.type "function", data := Data.func { name := Str.ofString "__contains__", qualname := Str.ofString "Headers.__contains__", params := a16F, body := FuncBody.stmts b16F, scope := c16F, globals := 3, closure := [], defaults := Value.none, kwdefaults := Value.none, pyModule := Value.str (Str.ofString "cpy313.wsgiref.headers") 454, code := Value.ref 225 } }) :: (nat_lit 227, { cls := Value.type "tuple", data := Data.seq #[] }) :: (nat_lit 229, { cls := Value.type "tuple", data := Data.seq #[Value.str (Str.ofString "self") 633, Value.str (Str.ofString "name") 634] }) :: (nat_lit 230, { cls := Value.type "tuple", data := Data.seq #[] }) :: (nat_lit 232, { cls := Value.type "code", data := Data.fields #[Value.str (Str.ofString "get_all") 630, Value.str (Str.ofString "Headers.get_all") 631, Value.str (Str.ofString "/claim/cut.py") 632, Value.int 127 0, Value.int 2 0, Value.int 0 0, Value.int 0 0, Value.int 3 0, Value.ref 227, Value.bool true, Value.int 276 0, Value.ref 228, Value.none, Value.ref 229, Value.ref 230, Value.ref 231, Value.int 635 0, Value.int 127 0, Value.str (Str.ofString "/claim/cut.py") 636] }) :: (nat_lit 233, { cls := Value.type "function", data := Data.func { name := Str.ofString "get_all", qualname := Str.ofString "Headers.get_all", params := a17F, body := FuncBody.stmts b17F, scope := c17F, globals := 3, closure := [], defaults := Value.none, kwdefaults := Value.none, pyModule := Value.str (Str.ofString "cpy313.wsgiref.headers") 454, code := Value.ref 232 } }) :: (nat_lit 234, { cls := Value.type "tuple", data := Data.seq #[Value.none] }) :: (nat_lit 235, { cls := Value.type "tuple", data := Data.seq #[] }) :: (nat_lit 237, { cls := Value.type "tuple", data := Data.seq #[Value.str (Str.ofString "self") 641, Value.str (Str.ofString "name") 642, Value.str (Str.ofString "default") 643, Value.str (Str.ofString "k") 644, Value.str (Str.ofString "v") 645] }) :: (nat_lit 238, { cls := Value.type "tuple", data := Data.seq #[] }) :: (nat_lit 240, { cls := Value.type "code", data := Data.fields #[Value.str (Str.ofString "get") 638, Value.str (Str.ofString "Headers.get") 639, Value.str (Str.ofString "/claim/cut.py") 640, Value.int 130 0, Value.int 3 0, Value.int 0 0, Value.int 0 0, Value.int 3 0, Value.ref 235, Value.bool true, Value.int 276 0, Value.ref 236, Value.none, Value.ref 237, Value.ref 238, Value.ref 239, Value.int 646 0, Value.int 130 0, Value.str (Str.ofString "/claim/cut.py") 647] }) :: (nat_lit 241, { cls := Value.type "function", data := Data.func { name := Str.ofString "get", qualname := Str.ofString "Headers.get", params := a18F, body := FuncBody.stmts b18F, scope := c18F, globals := 3, closure := [], defaults := Value.ref 234, kwdefaults := Value.none, pyModule := Value.str (Str.ofString "cpy313.wsgiref.headers") 454, code := Value.ref 240 } }) :: (nat_lit 242, { cls := Value.type "tuple", data := Data.seq #[] }) :: (nat_lit 245, { cls := Value.type "code", data := Data.fields #[Value.str (Str.ofString "keys") 649, Value.str (Str.ofString "Headers.keys") 650, Value.str (Str.ofString "/claim/cut.py") 651, Value.int 137 0, Value.int 1 0, Value.int 0 0, Value.int 0 0, Value.int 3 0, Value.ref 242, Value.bool true, Value.int 276 0, Value.ref 243, Value.none, Value.none, Value.none, Value.ref 244, Value.int 652 0, Value.int 137 0, Value.str (Str.ofString "/claim/cut.py") 653] }) :: (nat_lit 246, { cls := Value.type "function", data := Data.func { name := Str.ofString "keys", qualname := Str.ofString "Headers.keys", params := a19F, body := FuncBody.stmts b19F, scope := c19F, globals := 3, closure := [], defaults := Value.none, kwdefaults := Value.none, pyModule := Value.str (Str.ofString "cpy313.wsgiref.headers") 454, code := Value.ref 245 } }) :: (nat_lit 247, { cls := Value.type "tuple", data := Data.seq #[] }) :: (nat_lit 250, { cls := Value.type "code", data := Data.fields #[Value.str (Str.ofString "values") 655, Value.str (Str.ofString "Headers.values") 656, Value.str (Str.ofString "/claim/cut.py") 657, Value.int 140 0, Value.int 1 0, Value.int 0 0, Value.int 0 0, Value.int 3 0, Value.ref 247, Value.bool true, Value.int 276 0, Value.ref 248, Value.none, Value.none, Value.none, Value.ref 249, Value.int 658 0, Value.int 140 0, Value.str (Str.ofString "/claim/cut.py") 659] }) :: (nat_lit 251, { cls := Value.type "function", data := Data.func { name := Str.ofString "values", qualname := Str.ofString "Headers.values", params := a20F, body := FuncBody.stmts b20F, scope := c20F, globals := 3, closure := [], defaults := Value.none, kwdefaults := Value.none, pyModule := Value.str (Str.ofString "cpy313.wsgiref.headers") 454, code := Value.ref 250 } }) :: (nat_lit 252, { cls := Value.type "tuple", data := Data.seq #[] }) :: (nat_lit 254, { cls := Value.type "tuple", data := Data.seq #[Value.str (Str.ofString "self") 664] }) :: (nat_lit 255, { cls := Value.type "tuple", data := Data.seq #[] }) :: (nat_lit 257, { cls := Value.type "code", data := Data.fields #[Value.str (Str.ofString "items") 661, Value.str (Str.ofString "Headers.items") 662, Value.str (Str.ofString "/claim/cut.py") 663, Value.int 143 0, Value.int 1 0, Value.int 0 0, Value.int 0 0, Value.int 3 0, Value.ref 252, Value.bool true, Value.int 276 0, Value.ref 253, Value.none, Value.ref 254, Value.ref 255, Value.ref 256, Value.int 665 0, Value.int 143 0, Value.str (Str.ofString "/claim/cut.py") 666] }) :: (nat_lit 258, { cls := Value.type "function", data := Data.func { name := Str.ofString "items", qualname := Str.ofString "Headers.items", params := a21F, body := FuncBody.stmts b21F, scope := c21F, globals := 3, closure := [], defaults := Value.none, kwdefaults := Value.none, pyModule := Value.str (Str.ofString "cpy313.wsgiref.headers") 454, code := Value.ref 257 } }) :: (nat_lit 259, { cls := Value.type "tuple", data := Data.seq #[] }) :: (nat_lit 261, { cls := Value.type "tuple", data := Data.seq #[Value.str (Str.ofString "self") 671] }) :: (nat_lit 262, { cls := Value.type "tuple", data := Data.seq #[] }) :: (nat_lit 264, { cls := Value.type "code", data := Data.fields #[Value.str (Str.ofString "__repr__") 668, Value.str (Str.ofString "Headers.__repr__") 669, Value.str (Str.ofString "/claim/cut.py") 670, Value.int 146 0, Value.int 1 0, Value.int 0 0, Value.int 0 0, Value.int 3 0, Value.ref 259, Value.bool true, Value.int 276 0, Value.ref 260, Value.none, Value.ref 261, Value.ref 262, Value.ref 263, Value.int 672 0, Value.int 146 0, Value.str (Str.ofString "/claim/cut.py") 673] }) :: (nat_lit 265, { cls := Value.type "function", data := Data.func { name := Str.ofString "__repr__", qualname := Str.ofString "Headers.__repr__", params := a22F, body := FuncBody.stmts b22F, scope := c22F, globals := 3, closure := [], defaults := Value.none, kwdefaults := Value.none, pyModule := Value.str (Str.ofString "cpy313.wsgiref.headers") 454, code := Value.ref 264 } }) :: (nat_lit 266, { cls := Value.type "tuple", data := Data.seq #[] }) :: (nat_lit 269, { cls := Value.type "code", data := Data.fields #[Value.str (Str.ofString "__str__") 675, Value.str (Str.ofString "Headers.__str__") 676, Value.str (Str.ofString "/claim/cut.py") 677, Value.int 149 0, Value.int 1 0, Value.int 0 0, Value.int 0 0, Value.int 3 0, Value.ref 266, Value.bool true, Value.int 276 0, Value.ref 267, Value.none, Value.none, Value.none, Value.ref 268, Value.int 678 0, Value.int 149 0, Value.str (Str.ofString "/claim/cut.py") 679] }) :: (nat_lit 270, { cls := Value.type "function", data := Data.func { name := Str.ofString "__str__", qualname := Str.ofString "Headers.__str__", params := a23F, body := FuncBody.stmts b23F, scope := c23F, globals := 3, closure := [], defaults := Value.none, kwdefaults := Value.none, pyModule := Value.str (Str.ofString "cpy313.wsgiref.headers") 454, code := Value.ref 269 } }) :: (nat_lit 271, { cls := Value.type "tuple", data := Data.seq #[] }) :: (nat_lit 273, { cls := Value.type "tuple", data := Data.seq #[Value.str (Str.ofString "self") 684] }) :: (nat_lit 274, { cls := Value.type "tuple", data := Data.seq #[] }) :: (nat_lit 276, { cls := Value.type "code", data := Data.fields #[Value.str (Str.ofString "__bytes__") 681, Value.str (Str.ofString "Headers.__bytes__") 682, Value.str (Str.ofString "/claim/cut.py") 683, Value.int 152 0, Value.int 1 0, Value.int 0 0, Value.int 0 0, Value.int 3 0, Value.ref 271, Value.bool true, Value.int 276 0, Value.ref 272, Value.none, Value.ref 273, Value.ref 274, Value.ref 275, Value.int 685 0, Value.int 152 0, Value.str (Str.ofString "/claim/cut.py") 686] }) :: (nat_lit 277, { cls := Value.type "function", data := Data.func { name := Str.ofString "__bytes__", qualname := Str.ofString "Headers.__bytes__", params := a24F, body := FuncBody.stmts b24F, scope := c24F, globals := 3, closure := [], defaults := Value.none, kwdefaults := Value.none, pyModule := Value.str (Str.ofString "cpy313.wsgiref.headers") 454, code := Value.ref 276 } }) :: (nat_lit 278, { cls := Value.type "tuple", data := Data.seq #[] }) :: (nat_lit 280, { cls := Value.type "tuple", data := Data.seq #[Value.str (Str.ofString "self") 691, Value.str (Str.ofString "name") 692, Value.str (Str.ofString "value") 693] }) :: (nat_lit 281, { cls := Value.type "tuple", data := Data.seq #[] }) :: (nat_lit 283, { cls := Value.type "code", data := Data.fields #[Value.str (Str.ofString "setdefault") 688, Value.str (Str.ofString "Headers.setdefault") 689, Value.str (Str.ofString "/claim/cut.py") 690, Value.int 155 0, Value.int 3 0, Value.int 0 0, Value.int 0 0, Value.int 3 0, Value.ref 278, Value.bool true, Value.int 276 0, Value.ref 279, Value.none, Value.ref 280, Value.ref 281, Value.ref 282, Value.int 694 0, Value.int 155 0, Value.str (Str.ofString "/claim/cut.py") 695] }) :: (nat_lit 284, { cls := Value.type "function", data := Data.func { name := Str.ofString "setdefault", qualname := Str.ofString "Headers.setdefault", params := a25F, body := FuncBody.stmts b25F, scope := c25F, globals := 3, closure := [], defaults := Value.none, kwdefaults := Value.none, pyModule := Value.str (Str.ofString "cpy313.wsgiref.headers") 454, code := Value.ref 283 } }) :: (nat_lit 285, { cls := Value.type "tuple", data := Data.seq #[] }) :: (nat_lit 287, { cls := Value.type "tuple", data := Data.seq #[Value.str (Str.ofString "self") 700, Value.str (Str.ofString "_name") 701, Value.str (Str.ofString "_value") 702, Value.str (Str.ofString "_params") 703, Value.str (Str.ofString "parts") 704, Value.str (Str.ofString "k") 705, Value.str (Str.ofString "v") 706] }) :: (nat_lit 288, { cls := Value.type "tuple", data := Data.seq #[] }) :: (nat_lit 290, { cls := Value.type "code", data := Data.fields #[Value.str (Str.ofString "add_header") 697, Value.str (Str.ofString "Headers.add_header") 698, Value.str (Str.ofString "/claim/cut.py") 699, Value.int 158 0, Value.int 3 0, Value.int 0 0, Value.int 0 0, Value.int 11 0, Value.ref 285, Value.bool true, Value.int 276 0, Value.ref 286, Value.none, Value.ref 287, Value.ref 288, Value.ref 289, Value.int 707 0, Value.int 158 0, Value.str (Str.ofString "/claim/cut.py") 708] }) :: (nat_lit 291, { cls := Value.type "function", data := Data.func { name := Str.ofString "add_header", qualname := Str.ofString "Headers.add_header", params := a26F, body := FuncBody.stmts b26F, scope := c26F, globals := 3, closure := [], defaults := Value.none, kwdefaults := Value.none, pyModule := Value.str (Str.ofString "cpy313.wsgiref.headers") 454, code := Value.ref 290 } }) :: (nat_lit 292, { cls := Value.type "tuple", data := Data.seq #[Value.str (Str.ofString "_headers") 710] }) :: (nat_lit 293, { cls := Value.type "dict", data := Data.dict #[{ hash := PyData.keyHash P (Str.ofString "__module__"), key := Value.str (Str.ofString "__module__") 567, val := Value.str (Str.ofString "cpy313.wsgiref.headers") 454 }, { hash := PyData.keyHash P (Str.ofString "__firstlineno__"), key := Value.str (Str.ofString "__firstlineno__") 571, val := Value.int 90 570 }, { hash := PyData.keyHash P (Str.ofString "__init__"), key := Value.str (Str.ofString "__init__") 581, val := Value.ref 186 }, { hash := PyData.keyHash P (Str.ofString "_convert_string_type"), key := Value.str (Str.ofString "_convert_string_type") 591, val := Value.ref 193 }, { hash := PyData.keyHash P (Str.ofString "__len__"), key := Value.str (Str.ofString "__len__") 598, val := Value.ref 200 }, { hash := PyData.keyHash P (Str.ofString "__setitem__"), key := Value.str (Str.ofString "__setitem__") 607, val := Value.ref 207 }, { hash := PyData.keyHash P (Str.ofString "__delitem__"), key := Value.str (Str.ofString "__delitem__") 613, val := Value.ref 212 }, { hash := PyData.keyHash P (Str.ofString "__getitem__"), key := Value.str (Str.ofString "__getitem__") 621, val := Value.ref 219 }, { hash := PyData.keyHash P (Str.ofString "__contains__"), key := Value.str (Str.ofString "__contains__") 629, val := Value.ref 226 }, { hash := PyData.keyHash P (Str.ofString "get_all"), key := Value.str (Str.ofString "get_all") 637, val := Value.ref 233 }, { hash := PyData.keyHash P (Str.ofString "get"), key := Value.str (Str.ofString "get") 648, val := Value.ref 241 }, { hash := PyData.keyHash P (Str.ofString "keys"), key := Value.str (Str.ofString "keys") 654, val := Value.ref 246 }, { hash := PyData.keyHash P (Str.ofString "values"), key := Value.str (Str.ofString "values") 660, val := Value.ref 251 }, { hash := PyData.keyHash P (Str.ofString "items"), key := Value.str (Str.ofString "items") 667, val := Value.ref 258 }, { hash := PyData.keyHash P (Str.ofString "__repr__"), key := Value.str (Str.ofString "__repr__") 674, val := Value.ref 265 }, { hash := PyData.keyHash P (Str.ofString "__str__"), key := Value.str (Str.ofString "__str__") 680, val := Value.ref 270 }, { hash := PyData.keyHash P (Str.ofString "__bytes__"), key := Value.str (Str.ofString "__bytes__") 687, val := Value.ref 277 }, { hash := PyData.keyHash P (Str.ofString "setdefault"), key := Value.str (Str.ofString "setdefault") 696, val := Value.ref 284 }, { hash := PyData.keyHash P (Str.ofString "add_header"), key := Value.str (Str.ofString "add_header") 709, val := Value.ref 291 }, { hash := PyData.keyHash P (Str.ofString "__static_attributes__"), key := Value.str (Str.ofString "__static_attributes__") 711, val := Value.ref 292 }, { hash := PyData.keyHash P (Str.ofString "__dict__"), key := Value.str (Str.ofString "__dict__") 713, val := Value.ref 295 }, { hash := PyData.keyHash P (Str.ofString "__weakref__"), key := Value.str (Str.ofString "__weakref__") 715, val := Value.ref 296 }, { hash := PyData.keyHash P (Str.ofString "__doc__"), key := Value.str (Str.ofString "__doc__") 716, val := Value.none }] 4 }) :: (nat_lit 294, { cls := Value.type "type", data := Data.cls { name := Str.ofString "Headers", bases := [Value.type "object"], mro := [Value.ref 294, Value.type "object"], ns := 293, qualname := Str.ofString "Headers" }, slots := #[none, none, some (Value.str (Str.ofString "Headers") 560), some (Value.str (Str.ofString "Headers") 568), some (Value.builtin "object.__new__"), some (Value.bool true)] }) :: (nat_lit 295, { cls := Value.type "getset_descriptor", data := Data.fields #[Value.str (Str.ofString "__dict__") 712, Value.ref 294, Value.builtin "function.__dict__", Value.builtin "function.__dict__#set"] }) :: (nat_lit 296, { cls := Value.type "getset_descriptor", data := Data.fields #[Value.str (Str.ofString "__weakref__") 714, Value.ref 294, Value.builtin "ExceptionGroup.__weakref__", Value.none] }) :: (nat_lit 299, { cls := Value.type "tuple", data := Data.seq #[] }) :: (nat_lit 301, { cls := Value.type "tuple", data := Data.seq #[Value.str (Str.ofString "port") 724, Value.str (Str.ofString "mark") 725] }) :: (nat_lit 302, { cls := Value.type "tuple", data := Data.seq #[] }) :: (nat_lit 304, { cls := Value.type "code", data := Data.fields #[Value.str (Str.ofString "_law_reply") 721, Value.str (Str.ofString "_law_reply") 722, Value.str (Str.ofString "/claim/cut.py") 723, Value.int 172 0, Value.int 1 0, Value.int 0 0, Value.int 0 0, Value.int 3 0, Value.ref 299, Value.bool true, Value.int 276 0, Value.ref 300, Value.none, Value.ref 301, Value.ref 302, Value.ref 303, Value.int 726 0, Value.int 172 0, Value.str (Str.ofString "/claim/cut.py") 727] }) :: (nat_lit 305, { cls := Value.type "function", data := Data.func { name := Str.ofString "_law_reply", qualname := Str.ofString "_law_reply", params := a27F, body := FuncBody.stmts b27F, scope := c27F, globals := 3, closure := [], defaults := Value.none, kwdefaults := Value.none, pyModule := Value.str (Str.ofString "law_tl0048_02") 719, code := Value.ref 304 } }) :: (nat_lit 306, { cls := Value.type "tuple", data := Data.seq #[] }) :: (nat_lit 308, { cls := Value.type "tuple", data := Data.seq #[Value.str (Str.ofString "ports") 732, Value.str (Str.ofString "table") 733, Value.str (Str.ofString "port") 734] }) :: (nat_lit 309, { cls := Value.type "tuple", data := Data.seq #[] }) :: (nat_lit 311, { cls := Value.type "code", data := Data.fields #[Value.str (Str.ofString "_law_table") 729, Value.str (Str.ofString "_law_table") 730, Value.str (Str.ofString "/claim/cut.py") 731, Value.int 175 0, Value.int 1 0, Value.int 0 0, Value.int 0 0, Value.int 3 0, Value.ref 306, Value.bool true, Value.int 276 0, Value.ref 307, Value.none, Value.ref 308, Value.ref 309, Value.ref 310, Value.int 735 0, Value.int 175 0, Value.str (Str.ofString "/claim/cut.py") 736] }) :: (nat_lit 312, { cls := Value.type "function", data := Data.func { name := Str.ofString "_law_table", qualname := Str.ofString "_law_table", params := a28F, body := FuncBody.stmts b28F, scope := c28F, globals := 3, closure := [], defaults := Value.none, kwdefaults := Value.none, pyModule := Value.str (Str.ofString "law_tl0048_02") 719, code := Value.ref 311 } }) :: (nat_lit 313, { cls := Value.type "tuple", data := Data.seq #[] }) :: (nat_lit 316, { cls := Value.type "code", data := Data.fields #[Value.str (Str.ofString "_law_ports") 738, Value.str (Str.ofString "_law_ports") 739, Value.str (Str.ofString "/claim/cut.py") 740, Value.int 180 0, Value.int 1 0, Value.int 0 0, Value.int 0 0, Value.int 3 0, Value.ref 313, Value.bool true, Value.int 276 0, Value.ref 314, Value.none, Value.none, Value.none, Value.ref 315, Value.int 741 0, Value.int 180 0, Value.str (Str.ofString "/claim/cut.py") 742] }) :: (nat_lit 317, { cls := Value.type "function", data := Data.func { name := Str.ofString "_law_ports", qualname := Str.ofString "_law_ports", params := a29F, body := FuncBody.stmts b29F, scope := c29F, globals := 3, closure := [], defaults := Value.none, kwdefaults := Value.none, pyModule := Value.str (Str.ofString "law_tl0048_02") 719, code := Value.ref 316 } }) :: (nat_lit 318, { cls := Value.type "tuple", data := Data.seq #[] }) :: (nat_lit 321, { cls := Value.type "code", data := Data.fields #[Value.str (Str.ofString "_law_move") 744, Value.str (Str.ofString "_law_move") 745, Value.str (Str.ofString "/claim/cut.py") 746, Value.int 182 0, Value.int 3 0, Value.int 0 0, Value.int 0 0, Value.int 3 0, Value.ref 318, Value.bool true, Value.int 276 0, Value.ref 319, Value.none, Value.none, Value.none, Value.ref 320, Value.int 747 0, Value.int 182 0, Value.str (Str.ofString "/claim/cut.py") 748] }) :: (nat_lit 322, { cls := Value.type "function", data := Data.func { name := Str.ofString "_law_move", qualname := Str.ofString "_law_move", params := a30F, body := FuncBody.stmts b30F, scope := c30F, globals := 3, closure := [], defaults := Value.none, kwdefaults := Value.none, pyModule := Value.str (Str.ofString "law_tl0048_02") 719, code := Value.ref 321 } }) :: (nat_lit 323, { cls := Value.type "tuple", data := Data.seq #[] }) :: (nat_lit 325, { cls := Value.type "tuple", data := Data.seq #[Value.str (Str.ofString "table") 753, Value.str (Str.ofString "step") 754, Value.str (Str.ofString "choice") 755, Value.str (Str.ofString "moves") 756] }) :: (nat_lit 326, { cls := Value.type "tuple", data := Data.seq #[] }) :: (nat_lit 328, { cls := Value.type "code", data := Data.fields #[Value.str (Str.ofString "_law_settle") 750, Value.str (Str.ofString "_law_settle") 751, Value.str (Str.ofString "/claim/cut.py") 752, Value.int 190 0, Value.int 3 0, Value.int 0 0, Value.int 0 0, Value.int 3 0, Value.ref 323, Value.bool true, Value.int 276 0, Value.ref 324, Value.none, Value.ref 325, Value.ref 326, Value.ref 327, Value.int 757 0, Value.int 190 0, Value.str (Str.ofString "/claim/cut.py") 758] }) :: (nat_lit 329, { cls := Value.type "function", data := Data.func { name := Str.ofString "_law_settle", qualname := Str.ofString "_law_settle", params := a31F, body := FuncBody.stmts b31F, scope := c31F, globals := 3, closure := [], defaults := Value.none, kwdefaults := Value.none, pyModule := Value.str (Str.ofString "law_tl0048_02") 719, code := Value.ref 328 } }) :: (nat_lit 330, { cls := Value.type "tuple", data := Data.seq #[] }) :: (nat_lit 333, { cls := Value.type "code", data := Data.fields #[Value.str (Str.ofString "_law_lead") 760, Value.str (Str.ofString "_law_lead") 761, Value.str (Str.ofString "/claim/cut.py") 762, Value.int 195 0, Value.int 1 0, Value.int 0 0, Value.int 0 0, Value.int 3 0, Value.ref 330, Value.bool true, Value.int 276 0, Value.ref 331, Value.none, Value.none, Value.none, Value.ref 332, Value.int 763 0, Value.int 195 0, Value.str (Str.ofString "/claim/cut.py") 764] }) :: (nat_lit 334, { cls := Value.type "function", data := Data.func { name := Str.ofString "_law_lead", qualname := Str.ofString "_law_lead", params := a32F, body := FuncBody.stmts b32F, scope := c32F, globals := 3, closure := [], defaults := Value.none, kwdefaults := Value.none, pyModule := Value.str (Str.ofString "law_tl0048_02") 719, code := Value.ref 333 } }) :: (nat_lit 335, { cls := Value.type "tuple", data := Data.seq #[] }) :: (nat_lit 338, { cls := Value.type "code", data := Data.fields #[Value.str (Str.ofString "_law_rows") 766, Value.str (Str.ofString "_law_rows") 767, Value.str (Str.ofString "/claim/cut.py") 768, Value.int 197 0, Value.int 1 0, Value.int 0 0, Value.int 0 0, Value.int 3 0, Value.ref 335, Value.bool true, Value.int 276 0, Value.ref 336, Value.none, Value.none, Value.none, Value.ref 337, Value.int 769 0, Value.int 197 0, Value.str (Str.ofString "/claim/cut.py") 770] }) :: (nat_lit 339, { cls := Value.type "function", data := Data.func { name := Str.ofString "_law_rows", qualname := Str.ofString "_law_rows", params := a33F, body := FuncBody.stmts b33F, scope := c33F, globals := 3, closure := [], defaults := Value.none, kwdefaults := Value.none, pyModule := Value.str (Str.ofString "law_tl0048_02") 719, code := Value.ref 338 } }) :: (nat_lit 340, { cls := Value.type "tuple", data := Data.seq #[] }) :: (nat_lit 343, { cls := Value.type "code", data := Data.fields #[Value.str (Str.ofString "_law_hooks") 772, Value.str (Str.ofString "_law_hooks") 773, Value.str (Str.ofString "/claim/cut.py") 774, Value.int 200 0, Value.int 2 0, Value.int 0 0, Value.int 0 0, Value.int 3 0, Value.ref 340, Value.bool true, Value.int 276 0, Value.ref 341, Value.none, Value.none, Value.none, Value.ref 342, Value.int 775 0, Value.int 200 0, Value.str (Str.ofString "/claim/cut.py") 776] }) :: (nat_lit 344, { cls := Value.type "function", data := Data.func { name := Str.ofString "_law_hooks", qualname := Str.ofString "_law_hooks", params := a34F, body := FuncBody.stmts b34F, scope := c34F, globals := 3, closure := [], defaults := Value.none, kwdefaults := Value.none, pyModule := Value.str (Str.ofString "law_tl0048_02") 719, code := Value.ref 343 } }) :: (nat_lit 345, { cls := Value.type "tuple", data := Data.seq #[] }) :: (nat_lit 348, { cls := Value.type "code", data := Data.fields #[Value.str (Str.ofString "_law_unpaid") 778, Value.str (Str.ofString "_law_unpaid") 779, Value.str (Str.ofString "/claim/cut.py") 780, Value.int 209 0, Value.int 2 0, Value.int 0 0, Value.int 0 0, Value.int 3 0, Value.ref 345, Value.bool true, Value.int 276 0, Value.ref 346, Value.none, Value.none, Value.none, Value.ref 347, Value.int 781 0, Value.int 209 0, Value.str (Str.ofString "/claim/cut.py") 782] }) :: (nat_lit 349, { cls := Value.type "function", data := Data.func { name := Str.ofString "_law_unpaid", qualname := Str.ofString "_law_unpaid", params := a35F, body := FuncBody.stmts b35F, scope := c35F, globals := 3, closure := [], defaults := Value.none, kwdefaults := Value.none, pyModule := Value.str (Str.ofString "law_tl0048_02") 719, code := Value.ref 348 } }) :: (nat_lit 350, { cls := Value.type "tuple", data := Data.seq #[] }) :: (nat_lit 353, { cls := Value.type "code", data := Data.fields #[Value.str (Str.ofString "law") 784, Value.str (Str.ofString "law") 785, Value.str (Str.ofString "/claim/cut.py") 786, Value.int 211 0, Value.int 1 0, Value.int 0 0, Value.int 0 0, Value.int 3 0, Value.ref 350, Value.bool true, Value.int 276 0, Value.ref 351, Value.none, Value.none, Value.none, Value.ref 352, Value.int 787 0, Value.int 211 0, Value.str (Str.ofString "/claim/cut.py") 788] }) :: (nat_lit 354, { cls := Value.type "function", data := Data.func { name := Str.ofString "law", qualname := Str.ofString "law", params := a36F, body := FuncBody.stmts b36F, scope := c36F, globals := 3, closure := [], defaults := Value.none, kwdefaults := Value.none, pyModule := Value.str (Str.ofString "law_tl0048_02") 719, code := Value.ref 353 } }) :: []
def KA : List Nat := [2, 3, 32, 34, 35, 37, 38, 49, 51, 52, 54, 55, 56, 58, 59, 61, 62, 63, 65, 66, 68, 69, 70, 72, 73, 75, 76, 77, 79, 80, 82, 83, 84, 86, 87, 89, 90, 91, 93, 94, 96, 97, 98, 99, 100, 101, 102, 105, 112, 113, 114, 115, 118, 125, 126, 127, 130, 137, 138, 139, 142, 144, 145, 147, 148, 152, 153, 157, 158, 162, 163, 164, 165, 167, 168, 170, 171, 179, 180, 182, 183, 185, 186, 187, 189, 190, 192, 193, 194, 196, 197, 199, 200, 201, 203, 204, 206, 207, 208, 211, 212, 213, 215, 216, 218, 219, 220, 222, 223, 225, 226, 227, 229, 230, 232, 233, 234, 235, 237, 238, 240, 241, 242, 245, 246, 247, 250, 251, 252, 254, 255, 257, 258, 259, 261, 262, 264, 265, 266, 269, 270, 271, 273, 274, 276, 277, 278, 280, 281, 283, 284, 285, 287, 288, 290, 291, 292, 293, 294, 295, 296, 299, 301, 302, 304, 305, 306, 308, 309, 311, 312, 313, 316, 317, 318, 321, 322, 323, 325, 326, 328, 329, 330, 333, 334, 335, 338, 339, 340, 343, 344, 345, 348, 349, 350, 353, 354]
end Mine
namespace Mine
open PySem PySem.W PySem.Calls PySem.Spec PyProof.Rows
/-- a frame's names, written -/
noncomputable def mapOf : List (Str × Value) → Str → Option Value
  | [], _ => none
  | p :: r, y => if y = p.1 then some p.2 else mapOf r y
theorem lookup_mapOf (y : Str) : ∀ l : List (Str × Value), l.lookup y = mapOf l y
  | [] => rfl
  | p :: r => by
    unfold mapOf
    rw [List.lookup_cons, ← lookup_mapOf y r]
    by_cases h : y = p.1
    · rw [if_pos h, beq_iff_eq.mpr h]
    · rw [if_neg h, beq_eq_false_iff_ne.mpr h]
section
variable {prog : Program} {w : World} {A A₀ : Around} {s : Shared} {K : Frag} {L : Addr} {h₀ base : Heap} {m mg mb : Str → Option Value} {p : Program} {loose : List Str} {mean : ExcName → Option Value}
  {env : Env} {outer : List Env} {R : Result → Shared → Prop} {name qual : Str} {params : Arguments} {body : List Stmt} {scope : Scope} {dV kV doc pm cdv ct oc : Value} {an od : Option Addr} {osl : Array (Option Value)} {f : Addr} {args : Args} {binds : List (Str × Value)}

/-- a call whose base is the caller's whole heap: nothing that stood is changed -/
theorem base_plain (B : Below A₀ base outer h₀) (F : Fr h₀ L s.heap m) (X₀ : K.In h₀) (T : Top p loose mean mg mb h₀) (hA : A.frames = some (env :: outer)) (hf : env.frame = some L) (hke : env.scope.kind = .function)
    (ho : K.lookup f = some ⟨oc, od, .func (fnOf name qual params body scope dV kV doc pm an cdv ct), osl⟩) (hcd : codeIn K cdv qual = true) (hroom : A.depth < recursionLimit)
    (hbind : BindsTo s (fnOf name qual params body scope dV kV doc pm an cdv ct) args binds) (hloc : ∀ y ∈ binds, scope.names.lookup y.1 = some .local)
    (h : ∀ L' h₁, Fr s.heap L' h₁ (mapOf binds.reverse) → Below A base (env :: outer) s.heap → K.In s.heap → Top p loose mean mg mb s.heap →
      wpAny (model prog w) (A.deeper (envOf qual scope L' f cdv)) (execs body (envOf qual scope L' f cdv))
        (fun fl s' => R (.ok (.ret (match fl with | .ret v => v | _ => .none))) s')
        (fun e s' => wpAny (model prog w) (A.deeper (envOf qual scope L' f cdv)) (leaving (envOf qual scope L' f cdv) e) (fun _ s'' => R (.error e) s'') (fun e' s'' => R (.error e') s'') s')
        { s with heap := h₁, toks := s.toks + binds.length })
    (hco : scope.isCoroutine = false) (hgen : scope.isGenerator = false) (hk : scope.kind = .function)
    (hcell : ∀ x ∈ scope.names, x.2 ≠ .cell) : codeAny (model prog w) A (.call (.ref f) args) R s := by
  obtain ⟨_, BG, st, _⟩ := groundX (R := R) B F News.nil hA hf hke
  refine codeAny_call_def (fd := fnX name qual params body scope [] dV kV doc pm an cdv ct) (body := body) (binds := binds) hroom ((X₀.keeps F.keep) _ _ ho) rfl (T.nolimit.keeps F.keep) (codeRec_of (X₀.keeps F.keep) hcd) rfl hbind hcell hloc (fun h₁ hns hk₁ => ?_) hco hgen hk
  rw [show (fun x => List.lookup x binds.reverse) = mapOf binds.reverse from funext fun y => lookup_mapOf y _] at hns
  exact h _ h₁ ⟨hns, hk₁, Nat.le_refl _⟩ BG (X₀.keeps F.keep) (T.keeps F.keep)

theorem base_cells (B : Below A₀ base outer h₀) (F : Fr h₀ L s.heap m) (X₀ : K.In h₀) (T : Top p loose mean mg mb h₀) (hA : A.frames = some (env :: outer)) (hf : env.frame = some L) (hke : env.scope.kind = .function)
    (ho : K.lookup f = some ⟨oc, od, .func (fnOf name qual params body scope dV kV doc pm an cdv ct), osl⟩) (hcd : codeIn K cdv qual = true) (hroom : A.depth < recursionLimit)
    (hbind : BindsTo s (fnOf name qual params body scope dV kV doc pm an cdv ct) args binds)
    (hkind : (binds.all fun y => scope.names.lookup y.1 == some .local || scope.names.lookup y.1 == some .cell) = true)
    (hnd : ((cellsFrom 0 scope.names []).map (·.1)).Nodup)
    (h : ∀ L' h₁ tk cells, Fr s.heap L' h₁ (bindL (envOfC qual scope L' f cdv).kindOf binds fun _ => none) → News s.heap L' h₁ cells →
      CellsAre (bindC (envOfC qual scope L' f cdv).kindOf binds fun _ => none) (cellsFrom (L' + 1) scope.names []) cells → Below A base (env :: outer) s.heap → K.In s.heap → Top p loose mean mg mb s.heap →
      wpAny (model prog w) (A.deeper (envOfC qual scope L' f cdv)) (execs body (envOfC qual scope L' f cdv))
        (fun fl s' => R (.ok (.ret (match fl with | .ret v => v | _ => .none))) s')
        (fun e s' => wpAny (model prog w) (A.deeper (envOfC qual scope L' f cdv)) (leaving (envOfC qual scope L' f cdv) e) (fun _ s'' => R (.error e) s'') (fun e' s'' => R (.error e') s'') s')
        { s with heap := h₁, toks := tk })
    (hco : scope.isCoroutine = false) (hgen : scope.isGenerator = false) (hk : scope.kind = .function) : codeAny (model prog w) A (.call (.ref f) args) R s := by
  obtain ⟨_, BG, st, _⟩ := groundX (R := R) B F News.nil hA hf hke
  refine codeAny_call_function hroom ((X₀.keeps F.keep) _ _ ho) rfl hco hgen rfl (codeRec_of (X₀.keeps F.keep) hcd) (hbind _ _ _ _ ?_)
  refine wpAny_newFunctionEnv_cells hk (kindsX hkind _) fun env' he s' x => ?_
  subst he
  refine ⟨(T.nolimit.keeps F.keep).keeps x.toInCall.keep, codeAny_func ?_⟩
  obtain ⟨h₁, tk, rfl, _⟩ := x.done
  have hk₁ := x.toInCall.keep
  obtain ⟨cells, NC, Y⟩ := Cl.news (h₀ := s.heap) (Nat.le_refl _) fun n c hm => ⟨x.cell n c (lookup_of_mem_nodup (cellsFrom_names scope.names 0 (s.heap.objs.size + 1) [] [] rfl ▸ hnd) hm), x.above n c hm⟩
  exact h _ h₁ tk cells ⟨x.toInCall.ns, hk₁, Nat.le_refl _⟩ NC Y BG (X₀.keeps F.keep) (T.keeps F.keep)
end
/-- the surroundings of a contract: some frame above, so much room -/
noncomputable abbrev Ar (d u : Nat) (env : Env) (outer : List Env) : Around := { handled := none, depth := d, frames := some (env :: outer), guards := none, units := u }
theorem at_le {α : Type} {M : Model} {A : Around} {t : Sem α} {Q : α → Shared → Prop} {E : Value → Shared → Prop} {s : Shared} {d u : Nat} {env : Env} {outer : List Env}
    (hh : A.handled = none) (hf : A.frames = some (env :: outer)) (hd : A.depth ≤ d) (hu : A.units ≤ u) (h : wpAny M (Ar d u env outer) t Q E s) : wpAny M A t Q E s :=
  fun Γ p hΓ => h Γ p ⟨hΓ.1.trans hh, Nat.le_trans hΓ.2.1 hd, fun l hl => hΓ.2.2.1 l (hf.trans hl), fun g hg => (by cases hg), Nat.le_trans hΓ.2.2.2.2 hu⟩
noncomputable def Keep (h h' : Heap) : Prop := ∀ b o, h.get? b = some o → h'.get? b = some o
theorem Keep.trans {a b c : Heap} (x : Keep a b) (y : Keep b c) : Keep a c := fun i o e => y i o (x i o e)
theorem Keep.refl {a : Heap} : Keep a a := fun _ _ e => e
theorem fr_keep {h₀ h h' : Heap} {L : Addr} {m : Str → Option Value} (F : Fr h₀ L h m) (k : Keep h h') : Fr h₀ L h' m := Fr.grownK F k
theorem news_keep {h₀ h h' : Heap} {L : Addr} {news : List (Addr × Obj)} (N : News h₀ L h news) (k : Keep h h') : News h₀ L h' news := News.grown N k
theorem news_add {h₀ h h' : Heap} {L a : Addr} {o : Obj} {m : Str → Option Value} {news : List (Addr × Obj)} (F : Fr h₀ L h m) (N : News h₀ L h' news) (hn : h.get? a = none) (ho : h'.get? a = some o) : News h₀ L h' ((a, o) :: news) := by
  intro p hp
  rcases List.mem_cons.mp hp with rfl | hp
  · refine ⟨ho, fun e => ?_, ?_⟩
    · obtain ⟨oL, _, _, hL, _⟩ := F.ns
      subst e
      rw [hL] at hn; cases hn
    · cases q : h₀.get? a with
      | none => rfl
      | some o' => rw [F.keep _ _ q] at hn; cases hn
  · exact N p hp
end Mine
namespace Mine
open PySem PySem.W PySem.Calls PySem.Spec PyProof.Rows
section
variable {prog : Program} {w : World} {A A₀ : Around} {s : Shared} {K : Frag} {L : Addr} {h₀ base : Heap} {m mg mb : Str → Option Value} {p : Program} {loose : List Str} {mean : ExcName → Option Value}
  {env : Env} {outer : List Env} {R : Result → Shared → Prop} {name qual : Str} {params : Arguments} {body : List Stmt} {scope : Scope} {dV kV doc pm cdv ct oc : Value} {an od : Option Addr} {osl : Array (Option Value)} {f : Addr} {args : Args} {binds : List (Str × Value)} {news : List (Addr × Obj)}
/-- a call that may change the objects of a ledger; its base is the caller's heap but these -/
theorem base_news (B : Below A₀ base outer h₀) (F : Fr h₀ L s.heap m) (X₀ : K.In h₀) (N : News h₀ L s.heap news) (T : Top p loose mean mg mb h₀) (hA : A.frames = some (env :: outer)) (hf : env.frame = some L) (hke : env.scope.kind = .function)
    (ho : K.lookup f = some ⟨oc, od, .func (fnOf name qual params body scope dV kV doc pm an cdv ct), osl⟩) (hcd : codeIn K cdv qual = true) (hroom : A.depth < recursionLimit)
    (hbind : BindsTo s (fnOf name qual params body scope dV kV doc pm an cdv ct) args binds) (hloc : ∀ y ∈ binds, scope.names.lookup y.1 = some .local)
    (h : ∀ g L' h₁, (∀ b o, s.heap.get? b = some o → b ∉ news.map (·.1) → g.get? b = some o) → Fr g L' h₁ (mapOf binds.reverse) → News g L' h₁ news → Below A base (env :: outer) g → K.In g → Top p loose mean mg mb g →
      wpAny (model prog w) (A.deeper (envOf qual scope L' f cdv)) (execs body (envOf qual scope L' f cdv))
        (fun fl s' => R (.ok (.ret (match fl with | .ret v => v | _ => .none))) s')
        (fun e s' => wpAny (model prog w) (A.deeper (envOf qual scope L' f cdv)) (leaving (envOf qual scope L' f cdv) e) (fun _ s'' => R (.error e) s'') (fun e' s'' => R (.error e') s'') s')
        { s with heap := h₁, toks := s.toks + binds.length })
    (hco : scope.isCoroutine = false) (hgen : scope.isGenerator = false) (hk : scope.kind = .function)
    (hcell : ∀ x ∈ scope.names, x.2 ≠ .cell) : codeAny (model prog w) A (.call (.ref f) args) R s := by
  obtain ⟨_, BG, st, _⟩ := groundX (R := R) B F N hA hf hke
  have XG := Frag.In.keeps X₀ st
  have TG := T.keeps st
  refine codeAny_call_def (fd := fnX name qual params body scope [] dV kV doc pm an cdv ct) (body := body) (binds := binds) hroom ((X₀.keeps F.keep) _ _ ho) rfl (T.nolimit.keeps F.keep) (codeRec_of (X₀.keeps F.keep) hcd) rfl hbind hcell hloc (fun h₁ hns hk₁ => ?_) hco hgen hk
  rw [show (fun x => List.lookup x binds.reverse) = mapOf binds.reverse from funext fun y => lookup_mapOf y _] at hns
  exact h (hideAll s.heap (news.map (·.1))) _ h₁ (fun b o e hb => hideAll_get _ e hb) ⟨hns, fun b o e => hk₁ b o (of_hideAll _ e), Nat.le_of_eq (hideAll_size _ _)⟩
    (fun p hp => ⟨hk₁ _ _ (N p hp).1, Nat.ne_of_lt (Heap.lt_size (N p hp).1), hideAll_none _ (List.mem_map_of_mem hp)⟩) BG XG TG
end
noncomputable def KeepBut (a : Addr) (h h' : Heap) : Prop := ∀ b o, b ≠ a → h.get? b = some o → h'.get? b = some o
end Mine
namespace Mine
open PySem PySem.W PySem.Calls PySem.Spec PyProof.Rows PySem.Builtin PySem.Builtin.Re

theorem re_slot : Slot "re.Pattern" "search" "re.Pattern.search" :=
  .of (owner := "re.Pattern") (n := "search") (by rw [typeLookup_type, builtinLookup_eq_fast]; kernel_rfl) (by decide +kernel) (by decide +kernel) (by decide +kernel)
    (by first | exact .inl (by decide +kernel) | exact .inr (by decide +kernel)) (by rw [isSubtype_type]; kernel_rfl)
theorem re_type : typeOf (.builtin "re.Pattern.search") = pure (.type "method_descriptor") := by show builtinType _ = _; rw [builtinType_eq_fast]; kernel_rfl
theorem re_entry : entryFor table "re.Pattern.search" = some Builtin.«re.Pattern.search» := entryFor_of_tree (by kernel_rfl)
theorem re_attrs : PlainAttrs "re.Pattern" := ⟨⟨"object.__getattribute__", by rw [typeLookup_type, builtinLookup_eq_fast]; kernel_rfl, by decide +kernel⟩, by rw [typeLookup_type, builtinLookup_eq_fast]; kernel_rfl⟩
theorem re_args (a b : Value) : argsOk "re.Pattern.search" ⟨[a, b], []⟩ := by
  unfold argsOk; kernel_rfl
end Mine
namespace Mine
open PySem PySem.W PySem.Calls PySem.Spec PyProof.Rows PySem.Builtin PySem.Builtin.Re
/-- no sign of the text is in the pattern's set -/
noncomputable def NoSign (code : Array Nat) (x : Str) : Prop := ∀ c ∈ x.cps.toList, ∀ seen, ∃ seen', Sre.inSet code c code.size 5 true seen = .ok (false, seen')

theorem admitted_none {m : Sre.M} (h : ∀ s, s < m.lim → ∀ seen, ∃ seen', Sre.inSet m.code (m.text.getD s 0) m.code.size 5 true seen = .ok (false, seen')) :
    ∀ fuel s seen, ∃ seen', Sre.M.admitted m fuel s seen = .ok (none, seen')
  | 0, s, seen => ⟨seen, rfl⟩
  | fuel + 1, s, seen => by
    unfold Sre.M.admitted
    by_cases hs : s ≥ m.lim
    · exact ⟨seen, by rw [if_pos hs]⟩
    · obtain ⟨seen', e⟩ := h s (by omega) seen
      obtain ⟨seen2, e2⟩ := admitted_none h fuel (s + 1) seen'
      refine ⟨seen2, ?_⟩
      rw [if_neg hs, e]
      exact e2

theorem runFor_fails {m : Sre.M} (ho : m.outcome = none) (ha : m.answer = some false) (hf : m.frames = []) : (Sre.M.runFor 4 m).outcome = some .failed := by
  have e1 : Sre.M.step m = { m with outcome := some .failed } := by
    unfold Sre.M.step
    rw [ho, ha, hf]
    rfl
  unfold Sre.M.runFor
  rw [ho, e1]
  unfold Sre.M.runFor
  rfl

theorem attemptFrom_fails {code : Array Nat} {x : Str} (h14 : code.getD 0 0 = 14) (h4 : code.getD 2 0 = 4) (hn : NoSign code x) (m : Sre.M) (hc : m.code = code) (ht : m.text = x.cps) (hl : m.lim = x.cps.size)
    (ho : m.outcome = none) (hf : m.frames = []) : (Sre.M.runFor 4 (m.attemptFrom 0 true)).outcome = some .failed := by
  have hs : Sre.M.hasFirstSet m = true := by
    unfold Sre.M.hasFirstSet
    rw [hc, h14, h4]
    rfl
  obtain ⟨seen', e⟩ := admitted_none (m := m) (fun s hs seen => by
      rw [hc, ht]
      have hlt : s < x.cps.size := by omega
      have : x.cps.getD s 0 ∈ x.cps.toList := by
        rw [Array.getD_eq_getD_getElem?, Array.getElem?_eq_getElem hlt]
        simp
      exact hn _ this seen) (m.lim + 1 - 0) 0 m.seen
  unfold Sre.M.attemptFrom
  rw [hs, e]
  simp only [Bool.not_true, Bool.false_eq_true, if_false]
  exact runFor_fails ho rfl hf
theorem forSearch_fails {code : Array Nat} {x : Str} (h14 : code.getD 0 0 = 14) (h4 : code.getD 2 0 = 4) (hn : NoSign code x) (gr : Nat) :
    (Sre.M.runFor 4 (Sre.forSearch code x.cps gr 0 x.cps.size false)).outcome = some .failed := by
  unfold Sre.forSearch
  dsimp only
  split
  · exact runFor_fails rfl rfl rfl
  · exact attemptFrom_fails h14 h4 hn _ rfl rfl rfl rfl rfl

section
variable {prog : Program} {w : World} {A : Around} {E : Value → Shared → Prop} {s : Shared}
theorem wp_rules {l : List Nat} {f : Nat → PUnit → Sem (ForInStep PUnit)} (hf : ∀ i u, (∃ t, f i u = (do rule t; pure (.yield ⟨⟩))) ∨ f i u = pure (.yield ⟨⟩)) {M : Model} {Q : PUnit → Shared → Prop} (h : Q ⟨⟩ s) :
    wpAny M A (forIn l ⟨⟩ f) Q E s := by
  refine wpAny_forIn_list f (fun _ _ s' => s' = s) Q ?_ (fun b s' e => by subst e; exact h) l ⟨⟩ rfl
  intro x rest b s' e
  subst e
  rcases hf x b with ⟨t, e⟩ | e
  · rw [e]; exact wpAny_bind (wpAny_rule (wpAny_pure rfl))
  · rw [e]; exact wpAny_pure rfl

theorem wp_reRun {m : Sre.M} {Q : Option Sre.M → Shared → Prop} (hm : (Sre.M.runFor 4 m).outcome = some .failed) (h : Q none s) : wpAny (model prog w) A (reRunToEnd m) Q E s := by
  unfold reRunToEnd
  refine wpAny_bind ?_
  rw [show (2 ^ 64 : Nat) = (2 ^ 64 - 1) + 1 from by decide]
  unfold reDrive
  dsimp only [reTurnSteps]
  rw [hm]
  simp only [Option.isSome_some, if_true]
  refine wpAny_pure ?_
  refine wpAny_bind (wp_rules (fun i u => ?_) ?_)
  · split
    · exact .inl ⟨_, rfl⟩
    · exact .inr rfl
  · rw [hm]
    exact wpAny_pure h

theorem call_search {a c : Addr} {x : Str} {t : Tok} {pat fl g1 g2 : Value} {gt k0 : Tok} {items : Array Value} {code : Array Nat} {n : Nat} {Q : Value → Shared → Prop}
    (ha : s.heap.get? a = some ⟨.type "re.Pattern", none, .fields #[pat, fl, .int 0 gt, g1, g2, .ref c, .int 0 k0], #[]⟩)
    (hc : s.heap.get? c = some ⟨.type "tuple", none, .seq items n, #[]⟩) (hcode : (items.map reRawOf).map (·.toNat) = code)
    (h14 : code.getD 0 0 = 14) (h4 : code.getD 2 0 = 4) (hn : NoSign code x) (hx : x.cps.size ≤ 1048576) (h : Q .none s) :
    wpAny (model prog w) A (call (.builtin "re.Pattern.search") [.ref a, .str x t]) Q E s := by
  refine wpAny_call (codeAny_call_builtin re_slot.plain re_entry (re_slot.check _ _ _ _ _ _ _ _ ⟨_, ha, rfl⟩ (re_args _ _) ?_))
  unfold Builtin.«re.Pattern.search»
  refine wpAny_bind ?_
  unfold reTarget
  dsimp only
  refine wpAny_bind (wpAny_of_eq (a := [some (.str x t), none, none]) (by kernel_rfl) ?_)
  dsimp only
  refine wpAny_bind (wpAny_pure (wpAny_bind (wpAny_pure ?_)))
  refine wpAny_bind (wpAny_fieldsOf ha rfl ?_)
  refine wpAny_bind (wpAny_of_eq (a := (x.cps, 0)) rfl ?_)
  dsimp only
  rw [if_neg (by simp), if_neg (by simp [reRawNat])]
  refine wpAny_bind (wpAny_of_eq (a := ()) rfl ?_)
  refine wpAny_bind ?_
  show wpAny _ _ (reRawItems (.ref c)) _ _ _
  unfold reRawItems
  refine wpAny_bind (wpAny_seqItems hc rfl ?_)
  refine wpAny_pure (wpAny_pure ?_)
  unfold reAnswer
  refine wpAny_bind ?_
  have hl : min ((2 : Int) ^ 63 - 1).toNat x.cps.size = x.cps.size := Nat.min_eq_right (by have : ((2 : Int) ^ 63 - 1).toNat = 9223372036854775807 := by decide
                                                                                           omega)
  have hp : min (Int.toNat 0) x.cps.size = 0 := Nat.min_eq_left (Nat.zero_le _)
  dsimp only [Option.getD_some]
  rw [hl, hp, hcode]
  refine wp_reRun (forSearch_fails h14 h4 hn _) ?_
  exact wpAny_pure h
end
end Mine
namespace Mine
open PySem PySem.W PySem.Calls PySem.Spec PyProof.Rows PySem.Builtin PySem.Builtin.Re
noncomputable def Fine (x : Str) : Prop := ∀ c ∈ x.cps.toList, 32 ≤ c ∧ c ≤ 126
noncomputable abbrev nameCode : Array Nat := #[14, 10, 4, 1, 1, 22, 0, 31, 16, 127, 0, 13, 7, 22, 0, 31, 16, 127, 0, 1]
noncomputable abbrev valCode : Array Nat := #[14, 14, 4, 1, 1, 9, 4294966783, 0, 0, 2147483648, 0, 0, 0, 0, 0, 13, 11, 9, 4294966783, 0, 0, 2147483648, 0, 0, 0, 0, 0, 1]
theorem noSign_name {x : Str} (h : Fine x) : NoSign nameCode x := by
  intro c hc seen
  obtain ⟨h1, h2⟩ := h c hc
  have e1 : (decide (c ≤ 31)) = false := decide_eq_false (by omega)
  have e2 : (c == 127) = false := beq_eq_false_iff_ne.mpr (by omega)
  refine ⟨((seen.add 22).add 16).add 0, ?_⟩
  show Sre.inSet nameCode c 20 5 true seen = _
  unfold Sre.inSet
  show (if decide (0 ≤ c) && decide (c ≤ 31) then _ else Sre.inSet nameCode c 19 8 true (seen.add 22)) = _
  rw [e1, Bool.and_false]
  simp only [Bool.false_eq_true, if_false]
  unfold Sre.inSet
  show (if (c == 127) = true then _ else Sre.inSet nameCode c 18 10 true ((seen.add 22).add 16)) = _
  rw [e2]
  simp only [Bool.false_eq_true, if_false]
  unfold Sre.inSet
  rfl
theorem val_bits : ∀ c : Fin 127, 32 ≤ c.1 → (valCode.getD (5 + (1 + c.1 / 32)) 0).testBit (c.1 % 32) = false := by decide +kernel
theorem noSign_val {x : Str} (h : Fine x) : NoSign valCode x := by
  intro c hc seen
  obtain ⟨h1, h2⟩ := h c hc
  have e1 := val_bits ⟨c, by omega⟩ h1
  refine ⟨(seen.add 9).add 0, ?_⟩
  show Sre.inSet valCode c 28 5 true seen = _
  unfold Sre.inSet
  show (if (decide (c < 256) && (valCode.getD (5 + (1 + c / 32)) 0).testBit (c % 32)) = true then _ else Sre.inSet valCode c 27 14 true (seen.add 9)) = _
  rw [e1, Bool.and_false]
  simp only [Bool.false_eq_true, if_false]
  unfold Sre.inSet
  rfl
end Mine
namespace Mine
open PySem PySem.W PySem.Calls PySem.Spec PyProof.Rows
section
variable {prog : Program} {w : World} {A : Around} {E : Value → Shared → Prop} {Q : Flow → Shared → Prop} {s : Shared} {env : Env} {h₀ : Heap} {L : Addr}

/-- a turn's end -/
noncomputable def TurnEnd (h₀ : Heap) (L : Addr) (s : Shared) (I : Addr) (oI : Obj) (J : (Str → Option Value) → List (Addr × Obj) → Prop) (Q : Flow → Shared → Prop) (f : Flow) (s₃ : Shared) : Prop :=
  match f with
  | .next => ∃ h' tk m₂ news₂, s₃ = { s with heap := h', toks := tk } ∧ Fr h₀ L h' m₂ ∧ News h₀ L h' ((I, oI) :: news₂) ∧ (∀ p ∈ news₂, p.1 ≠ I) ∧ J m₂ news₂
  | .cont => ∃ h' tk m₂ news₂, s₃ = { s with heap := h', toks := tk } ∧ Fr h₀ L h' m₂ ∧ News h₀ L h' ((I, oI) :: news₂) ∧ (∀ p ∈ news₂, p.1 ≠ I) ∧ J m₂ news₂
  | .brk => Q .next s₃
  | .ret v => Q (.ret v) s₃

noncomputable def GoOk (prog : Program) (w : World) (A : Around) (target : Expr) (vs : Array Value) : Prop :=
  ∀ (I l : Addr) (i : Nat) (v : Value) (s : Shared) (Q : Unit → Shared → Prop) (E : Value → Shared → Prop), v ∈ vs.toList → s.heap.IsListIter I l i → Q () s → wpAny (model prog w) A (letOwnedTupleGo target (.ref I) v) Q E s
theorem go_name {x : Str} {p : Pos} {vs : Array Value} : GoOk prog w A (.Name x p) vs := fun _ _ _ _ _ _ _ _ _ h => wpAny_pure h
theorem go_tuple {es : List Expr} {k : Nat} {p : Pos} {vs : Array Value} (h : ∀ v ∈ vs.toList, ∃ a, v = .ref a) : GoOk prog w A (.Tuple es k p) vs := fun I l i v s Q E hv hi hQ => by
  obtain ⟨a, rfl⟩ := h v hv
  exact wpAny_letOwnedTupleGo_listiter hi hQ

/-- what a list's loop wants behind its iterable -/
noncomputable def ListIn (prog : Program) (w : World) (A : Around) (E : Value → Shared → Prop) (Q : Flow → Shared → Prop) (env : Env) (h₀ : Heap) (L : Addr) (target : Expr) (body : List Stmt) (xv : Value) (s₁ : Shared) : Prop :=
  ∃ l items m news, xv = .ref l ∧ Fr h₀ L s₁.heap m ∧ News h₀ L s₁.heap news ∧ s₁.heap.IsList l items ∧ GoOk prog w A target items ∧
      ∃ J : Nat → (Str → Option Value) → List (Addr × Obj) → Prop, J 0 m news ∧ (∀ i m₁ news₁ h₁, J i m₁ news₁ → Fr h₀ L h₁ m₁ → News h₀ L h₁ news₁ → h₁.IsList l items) ∧
      (∀ i v m₁ news₁ h₁ tk₁ I oI, items[i]? = some v → J i m₁ news₁ → Fr h₀ L h₁ m₁ → News h₀ L h₁ ((I, oI) :: news₁) → (∀ p ∈ news₁, p.1 ≠ I) →
        wpAny (model prog w) A (assign target env v) (fun _ s₂ => wpAny (model prog w) A (execs body env) (TurnEnd h₀ L s₁ I oI (J (i + 1)) Q) E s₂) E { s₁ with heap := h₁, toks := tk₁ }) ∧
      (∀ m₁ news₁ h₁ tk₁, J items.size m₁ news₁ → Fr h₀ L h₁ m₁ → News h₀ L h₁ news₁ → Q .next { s₁ with heap := h₁, toks := tk₁ })

theorem For_list {target iter : Expr} {body : List Stmt} {pos : Pos} (h₀ : Heap) (L : Addr) (hh : A.handled = none)
    (h : wpAny (model prog w) A (eval iter env) (ListIn prog w A E Q env h₀ L target body) E s)
    (hs : ∀ x, foldedSetIterable iter env x = pure x := by intro _; rfl)
    (hE : PassesOwn (model prog w) A env E := by passes_own) :
    wpAny (model prog w) A (exec (.For target iter body [] pos) env) Q E s := by
  refine wpAny_For (wpAny_mono h (fun xv s₁ h₁ => ?_) fun _ _ e => e) hs
  obtain ⟨l, items, m, news, rfl, F, N, hl, hgo, J, hJ, hkeep, turn, done⟩ := h₁
  refine wpAny_pyIter_list hl ?_
  have hIL : ∀ p ∈ news, p.1 ≠ s₁.heap.objs.size := fun p hp => Nat.ne_of_lt (Heap.lt_size (N p hp).1)
  have hlI : l ≠ s₁.heap.objs.size := by
    obtain ⟨o, ho, _⟩ := hl
    exact Nat.ne_of_lt (Heap.lt_size ho)
  have hn0 : h₀.get? s₁.heap.objs.size = none := by
    cases q : h₀.get? s₁.heap.objs.size with
    | none => rfl
    | some o => exact absurd (Heap.lt_size (F.keep _ _ q)) (Nat.lt_irrefl _)
  have hLI : L ≠ s₁.heap.objs.size := by
    obtain ⟨oL, _, _, hL, _⟩ := F.ns
    exact Nat.ne_of_lt (Heap.lt_size hL)
  have F' := F.push { cls := .type "list_iterator", data := .fields #[.ref l, .int 0 0] }
  have N' : News h₀ L (s₁.heap.push { cls := .type "list_iterator", data := .fields #[.ref l, .int 0 0] }) news := fun p hp => ⟨Heap.get?_push_of_some _ (N p hp).1, (N p hp).2⟩
  have hI : (s₁.heap.push { cls := .type "list_iterator", data := .fields #[.ref l, .int 0 0] }).IsListIter s₁.heap.objs.size l 0 := ⟨_, Heap.get?_push_size _ rfl, rfl, rfl⟩
  generalize s₁.heap.push { cls := .type "list_iterator", data := .fields #[.ref l, .int 0 0] } = hp at F' N' hI
  generalize s₁.heap.objs.size = I at *
  refine codeAny_forLoop_any (fun k s' => ∃ h' tk m' news' i, s' = { s₁ with heap := h', toks := tk } ∧ h'.IsListIter I l i ∧ Fr h₀ L h' m' ∧ News h₀ L h' news' ∧ (∀ p ∈ news', p.1 ≠ I) ∧ J i m' news' ∧ i ≤ items.size ∧ k = items.size + 1 - i) ?_ (items.size + 1)
    ⟨hp, s₁.toks, m, news, 0, rfl, hI, F', N', hIL, hJ, Nat.zero_le _, rfl⟩
  rintro k s' ⟨h', tk, m', news', i, rfl, hI', F₁, N₁, hn₁, hJ₁, hi, rfl⟩
  have hl' := hkeep i m' news' h' hJ₁ F₁ N₁
  by_cases hlt : i < items.size
  · have hx : items[i]? = some items[i] := by simp [hlt]
    refine wpAny_pyNext_list_item hI' hl' hx fun h₂ hI₂ hs₂ => ?_
    refine hgo I l (i + 1) _ _ _ _ (by simp) hI₂ ?_
    have F₂ : Fr h₀ L h₂ m' := ⟨F₁.ns.sameBut hs₂ hLI, fun b o e => (hs₂.2 b (fun q => by rw [q, hn0] at e; cases e)).trans (F₁.keep b o e), F₁.above⟩
    have N₂ : News h₀ L h₂ news' := fun p hp => ⟨(hs₂.2 p.1 (hn₁ p hp)).trans (N₁ p hp).1, (N₁ p hp).2⟩
    obtain ⟨oI, hoI, hcI, hdI⟩ := id hI₂
    have N₃ : News h₀ L h₂ ((I, oI) :: news') := by
      intro p hp
      rcases List.mem_cons.mp hp with rfl | hp
      · exact ⟨hoI, fun e => hLI e.symm, hn0⟩
      · exact N₂ p hp
    refine wpAny_mono (wpAny_passesOwn hE (turn i _ m' news' h₂ tk I oI hx hJ₁ F₂ N₃ hn₁)) (fun _ s₂ h₂ => ?_) fun _ _ e => e
    refine wpAny_mono (wpAny_passesOwn hE h₂) (fun f s₃ h₃ => ?_) fun _ _ e => e
    have fin : (∃ h' tk m₂ news₂, s₃ = { s₁ with heap := h', toks := tk } ∧ Fr h₀ L h' m₂ ∧ News h₀ L h' ((I, oI) :: news₂) ∧ (∀ p ∈ news₂, p.1 ≠ I) ∧ J (i + 1) m₂ news₂) →
        ∃ m, m < items.size + 1 - i ∧ ∃ h' tk m' news' i, s₃ = { s₁ with heap := h', toks := tk } ∧ h'.IsListIter I l i ∧ Fr h₀ L h' m' ∧ News h₀ L h' news' ∧ (∀ p ∈ news', p.1 ≠ I) ∧ J i m' news' ∧ i ≤ items.size ∧ m = items.size + 1 - i := by
      rintro ⟨h3, tk3, m3, news3, rfl, F3, N3, hn3, J3⟩
      refine ⟨items.size + 1 - (i + 1), by omega, h3, tk3, m3, news3, i + 1, rfl, ⟨oI, (N3 _ (.head _)).1, hcI, hdI⟩, F3, fun p hp => N3 p (.tail _ hp), hn3, J3, hlt, rfl⟩
    cases f with
    | next => exact fin h₃
    | cont => exact fin h₃
    | brk => exact h₃
    | ret v => exact h₃
  · have hin : i = items.size := by omega
    subst hin
    refine wpAny_pyNext_list_end hh hI' hl' (by simp) fun h₂ hs₂ => ?_
    refine wpAny_execs_nil ?_
    exact done m' news' h₂ tk hJ₁ ⟨F₁.ns.at' fun o e => hs₂ _ o hLI e, fun b o e => hs₂ b o (fun q => by rw [q, hn0] at e; cases e) (F₁.keep b o e), F₁.above⟩ fun p hp => ⟨hs₂ _ _ (hn₁ p hp) (N₁ p hp).1, (N₁ p hp).2⟩

theorem go_any {x : Str} {p : Pos} {it v : Value} {Q : Unit → Shared → Prop} (h : Q () s) : wpAny (model prog w) A (letOwnedTupleGo (.Name x p) it v) Q E s := wpAny_pure h

/-- what a range's loop wants behind its iterable -/
noncomputable def RangeIn (prog : Program) (w : World) (A : Around) (E : Value → Shared → Prop) (Q : Flow → Shared → Prop) (env : Env) (h₀ : Heap) (L : Addr) (target : Expr) (body : List Stmt) (xv : Value) (s₁ : Shared) : Prop :=
  ∃ r a b t u v m news, xv = .ref r ∧ IsRange s₁.heap r a b 1 t u v ∧ (-(2 ^ 62) ≤ a ∧ a < 2 ^ 62 ∧ -(2 ^ 62) ≤ b ∧ b < 2 ^ 62) ∧ Fr h₀ L s₁.heap m ∧ News h₀ L s₁.heap news ∧
      ∃ J : Nat → (Str → Option Value) → List (Addr × Obj) → Prop, J 0 m news ∧
      (∀ i tv m₁ news₁ h₁ tk₁ I oI, i < (b - a).toNat → J i m₁ news₁ → Fr h₀ L h₁ m₁ → News h₀ L h₁ ((I, oI) :: news₁) → (∀ p ∈ news₁, p.1 ≠ I) →
        wpAny (model prog w) A (assign target env (.int (a + (i : Int)) tv)) (fun _ s₂ => wpAny (model prog w) A (execs body env) (TurnEnd h₀ L s₁ I oI (J (i + 1)) Q) E s₂) E { s₁ with heap := h₁, toks := tk₁ }) ∧
      (∀ m₁ news₁ h₁ tk₁, J (b - a).toNat m₁ news₁ → Fr h₀ L h₁ m₁ → News h₀ L h₁ news₁ → Q .next { s₁ with heap := h₁, toks := tk₁ })

theorem For_range {x : Str} {px : Pos} {iter : Expr} {body : List Stmt} {pos : Pos} (h₀ : Heap) (L : Addr) (hh : A.handled = none)
    (h : wpAny (model prog w) A (eval iter env) (RangeIn prog w A E Q env h₀ L (.Name x px) body) E s)
    (hs : ∀ x, foldedSetIterable iter env x = pure x := by intro _; rfl)
    (hE : PassesOwn (model prog w) A env E := by passes_own) :
    wpAny (model prog w) A (exec (.For (.Name x px) iter body [] pos) env) Q E s := by
  refine wpAny_For (wpAny_mono h (fun xv s₁ h₁ => ?_) fun _ _ e => e) hs
  obtain ⟨r, a, b, t, u, v, m, news, rfl, hr, ⟨ha, ha', hb, hb'⟩, F, N, J, hJ, turn, done⟩ := h₁
  refine wpAny_pyIter_range hr (small_one ha ha' hb hb') ?_
  have hsz : Builtin.Range.rangeSize a b 1 = ((b - a).toNat : Int) := by rw [rangeSize_one]; split <;> omega
  rw [hsz]
  generalize (b - a).toNat = n at *
  have hIL : ∀ p ∈ news, p.1 ≠ s₁.heap.objs.size := fun p hp => Nat.ne_of_lt (Heap.lt_size (N p hp).1)
  have hn0 : h₀.get? s₁.heap.objs.size = none := by
    cases q : h₀.get? s₁.heap.objs.size with
    | none => rfl
    | some o => exact absurd (Heap.lt_size (F.keep _ _ q)) (Nat.lt_irrefl _)
  have hLI : L ≠ s₁.heap.objs.size := by
    obtain ⟨oL, _, _, hL, _⟩ := F.ns
    exact Nat.ne_of_lt (Heap.lt_size hL)
  have F' := F.push { cls := .type "range_iterator", data := .fields #[rawInt a, rawInt (n : Int), rawInt 1] }
  have N' : News h₀ L (s₁.heap.push { cls := .type "range_iterator", data := .fields #[rawInt a, rawInt (n : Int), rawInt 1] }) news := fun p hp => ⟨Heap.get?_push_of_some _ (N p hp).1, (N p hp).2⟩
  have hI : IsRangeIter (s₁.heap.push { cls := .type "range_iterator", data := .fields #[rawInt a, rawInt (n : Int), rawInt 1] }) s₁.heap.objs.size (a + ((0 : Nat) : Int)) ((n : Int) - ((0 : Nat) : Int)) 1 := by
    simp only [Int.natCast_zero, Int.add_zero, Int.sub_zero]
    exact Heap.get?_push_size _ rfl
  generalize s₁.heap.push { cls := .type "range_iterator", data := .fields #[rawInt a, rawInt (n : Int), rawInt 1] } = hp at F' N' hI
  generalize s₁.heap.objs.size = I at *
  refine codeAny_forLoop_any (fun k s' => ∃ h' tk m' news' i, s' = { s₁ with heap := h', toks := tk } ∧ IsRangeIter h' I (a + ((i : Nat) : Int)) ((n : Int) - ((i : Nat) : Int)) 1 ∧ Fr h₀ L h' m' ∧ News h₀ L h' news' ∧ (∀ p ∈ news', p.1 ≠ I) ∧ J i m' news' ∧ i ≤ n ∧ k = n + 1 - i) ?_ (n + 1)
    ⟨hp, s₁.toks, m, news, 0, rfl, hI, F', N', hIL, hJ, Nat.zero_le _, rfl⟩
  rintro k s' ⟨h', tk, m', news', i, rfl, hI', F₁, N₁, hn₁, hJ₁, hi, rfl⟩
  by_cases hlt : i < n
  · refine wpAny_pyNext_range_item hI' (by omega) fun h₂ hI₂ hs₂ => ?_
    refine go_any ?_
    have F₂ : Fr h₀ L h₂ m' := ⟨F₁.ns.sameBut hs₂ hLI, fun b o e => (hs₂.2 b (fun q => by rw [q, hn0] at e; cases e)).trans (F₁.keep b o e), F₁.above⟩
    have N₂ : News h₀ L h₂ news' := fun p hp => ⟨(hs₂.2 p.1 (hn₁ p hp)).trans (N₁ p hp).1, (N₁ p hp).2⟩
    have e1 : a + (i : Int) + 1 = a + ((i + 1 : Nat) : Int) := by omega
    have e2 : (n : Int) - (i : Int) - 1 = (n : Int) - ((i + 1 : Nat) : Int) := by omega
    rw [e1, e2] at hI₂
    obtain ⟨oI, hoI, hback⟩ : ∃ oI : Obj, h₂.get? I = some oI ∧ ∀ h' : Heap, h'.get? I = some oI → IsRangeIter h' I (a + ((i + 1 : Nat) : Int)) ((n : Int) - ((i + 1 : Nat) : Int)) 1 := ⟨_, hI₂, fun _ e => e⟩
    have N₃ : News h₀ L h₂ ((I, oI) :: news') := by
      intro p hp
      rcases List.mem_cons.mp hp with rfl | hp
      · exact ⟨hoI, fun e => hLI e.symm, hn0⟩
      · exact N₂ p hp
    refine wpAny_mono (wpAny_passesOwn hE (turn i _ m' news' h₂ (tk + 1) I oI hlt hJ₁ F₂ N₃ hn₁)) (fun _ s₂ h₂ => ?_) fun _ _ e => e
    refine wpAny_mono (wpAny_passesOwn hE h₂) (fun f s₃ h₃ => ?_) fun _ _ e => e
    have fin : (∃ h' tk m₂ news₂, s₃ = { s₁ with heap := h', toks := tk } ∧ Fr h₀ L h' m₂ ∧ News h₀ L h' ((I, oI) :: news₂) ∧ (∀ p ∈ news₂, p.1 ≠ I) ∧ J (i + 1) m₂ news₂) →
        ∃ m, m < n + 1 - i ∧ ∃ h' tk m' news' i, s₃ = { s₁ with heap := h', toks := tk } ∧ IsRangeIter h' I (a + ((i : Nat) : Int)) ((n : Int) - ((i : Nat) : Int)) 1 ∧ Fr h₀ L h' m' ∧ News h₀ L h' news' ∧ (∀ p ∈ news', p.1 ≠ I) ∧ J i m' news' ∧ i ≤ n ∧ m = n + 1 - i := by
      rintro ⟨h3, tk3, m3, news3, rfl, F3, N3, hn3, J3⟩
      exact ⟨n + 1 - (i + 1), by omega, h3, tk3, m3, news3, i + 1, rfl, hback _ (N3 _ (.head _)).1, F3, fun p hp => N3 p (.tail _ hp), hn3, J3, hlt, rfl⟩
    cases f with
    | next => exact fin h₃
    | cont => exact fin h₃
    | brk => exact h₃
    | ret v => exact h₃
  · have hin : i = n := by omega
    subst hin
    refine wpAny_pyNext_range_end hh hI' (by omega) fun h₂ hs₂ => ?_
    refine wpAny_execs_nil ?_
    exact done m' news' h₂ tk hJ₁ ⟨F₁.ns.at' fun o e => hs₂ _ o hLI e, fun b o e => hs₂ b o (fun q => by rw [q, hn0] at e; cases e) (F₁.keep b o e), F₁.above⟩ fun p hp => ⟨hs₂ _ _ (hn₁ p hp) (N₁ p hp).1, (N₁ p hp).2⟩

theorem list_pack {target : Expr} {body : List Stmt} {s₁ : Shared} {l : Addr} {items : Array Value} {m : Str → Option Value} {news : List (Addr × Obj)} (J : (Str → Option Value) → List (Addr × Obj) → Nat → (Str → Option Value) → List (Addr × Obj) → Prop)
    (F : Fr h₀ L s₁.heap m) (N : News h₀ L s₁.heap news) (hl : s₁.heap.IsList l items) (hgo : GoOk prog w A target items) (hJ : J m news 0 m news)
    (hkeep : ∀ i m₁ news₁ h₁, J m news i m₁ news₁ → Fr h₀ L h₁ m₁ → News h₀ L h₁ news₁ → h₁.IsList l items)
    (turn : ∀ i v m₁ news₁ h₁ tk₁ I oI, items[i]? = some v → J m news i m₁ news₁ → Fr h₀ L h₁ m₁ → News h₀ L h₁ ((I, oI) :: news₁) → (∀ p ∈ news₁, p.1 ≠ I) →
        wpAny (model prog w) A (assign target env v) (fun _ s₂ => wpAny (model prog w) A (execs body env) (TurnEnd h₀ L s₁ I oI (J m news (i + 1)) Q) E s₂) E { s₁ with heap := h₁, toks := tk₁ })
    (done : ∀ m₁ news₁ h₁ tk₁, J m news items.size m₁ news₁ → Fr h₀ L h₁ m₁ → News h₀ L h₁ news₁ → Q .next { s₁ with heap := h₁, toks := tk₁ }) :
    ListIn prog w A E Q env h₀ L target body (.ref l) s₁ :=
  ⟨l, items, m, news, rfl, F, N, hl, hgo, J m news, hJ, hkeep, turn, done⟩
theorem range_pack {target : Expr} {body : List Stmt} {s₁ : Shared} {r : Addr} {a b : Int} {t u v : Tok} {m : Str → Option Value} {news : List (Addr × Obj)} (J : (Str → Option Value) → List (Addr × Obj) → Nat → (Str → Option Value) → List (Addr × Obj) → Prop)
    (hr : IsRange s₁.heap r a b 1 t u v) (ha : -(2 ^ 62) ≤ a) (ha' : a < 2 ^ 62) (hb : -(2 ^ 62) ≤ b) (hb' : b < 2 ^ 62) (F : Fr h₀ L s₁.heap m) (N : News h₀ L s₁.heap news) (hJ : J m news 0 m news)
    (turn : ∀ i tv m₁ news₁ h₁ tk₁ I oI, i < (b - a).toNat → J m news i m₁ news₁ → Fr h₀ L h₁ m₁ → News h₀ L h₁ ((I, oI) :: news₁) → (∀ p ∈ news₁, p.1 ≠ I) →
        wpAny (model prog w) A (assign target env (.int (a + (i : Int)) tv)) (fun _ s₂ => wpAny (model prog w) A (execs body env) (TurnEnd h₀ L s₁ I oI (J m news (i + 1)) Q) E s₂) E { s₁ with heap := h₁, toks := tk₁ })
    (done : ∀ m₁ news₁ h₁ tk₁, J m news (b - a).toNat m₁ news₁ → Fr h₀ L h₁ m₁ → News h₀ L h₁ news₁ → Q .next { s₁ with heap := h₁, toks := tk₁ }) :
    RangeIn prog w A E Q env h₀ L target body (.ref r) s₁ :=
  ⟨r, a, b, t, u, v, m, news, rfl, hr, ⟨ha, ha', hb, hb'⟩, F, N, J m news, hJ, turn, done⟩
/-- a map that parts from another at two names at most -/
noncomputable def But2 (a b : Str) (m m' : Str → Option Value) : Prop := ∃ u v, m' = fun z => if z = b then v else if z = a then u else m z
theorem But2.refl {a b : Str} {m : Str → Option Value} : But2 a b m m := ⟨m a, m b, by
  funext z
  by_cases h : z = b
  · rw [if_pos h, h]
  · rw [if_neg h]
    by_cases h' : z = a
    · rw [if_pos h', h']
    · rw [if_neg h']⟩
theorem But2.put {a b : Str} {m m' : Str → Option Value} {x y : Value} (h : But2 a b m m') : (fun z => if z = b then some y else if z = a then some x else m' z) = fun z => if z = b then some y else if z = a then some x else m z := by
  obtain ⟨u, v, rfl⟩ := h
  funext z
  by_cases h : z = b <;> by_cases h' : z = a <;> simp [h, h']
end
end Mine
namespace Mine
open PySem PySem.W PySem.Calls PySem.Spec PyProof.Rows
/-- a map that parts from m at these names at most -/
noncomputable def over (names : List Str) (f m : Str → Option Value) : Str → Option Value := fun z => if names.contains z = true then f z else m z
theorem over_refl {names : List Str} {m : Str → Option Value} : ∃ f, m = over names f m := ⟨m, by funext z; unfold over; split <;> rfl⟩
theorem over_of {names : List Str} {m m' : Str → Option Value} (h : ∀ z, names.contains z = false → m' z = m z) : ∃ f, m' = over names f m := ⟨m', by
  funext z
  unfold over
  split
  · rfl
  · rename_i hz
    exact h z (by simpa using hz)⟩
theorem over_off {names : List Str} {f m : Str → Option Value} {z : Str} (h : names.contains z = false) : over names f m z = m z := by
  unfold over
  rw [h]
  rfl
end Mine
namespace Mine
open PySem PySem.W PySem.Calls PySem.Spec PyProof.Rows
section
variable {prog : Program} {w : World} {A : Around} {E : Value → Shared → Prop} {Q : Flow → Shared → Prop} {s : Shared} {env : Env} {h₀ : Heap} {L : Addr} {m : Str → Option Value}
theorem For_rangeF {x : Str} {px : Pos} {iter : Expr} {body : List Stmt} {pos : Pos} (_F : Fr h₀ L s.heap m) (hh : A.handled = none)
    (h : wpAny (model prog w) A (eval iter env) (RangeIn prog w A E Q env h₀ L (.Name x px) body) E s)
    (hs : ∀ x, foldedSetIterable iter env x = pure x := by intro _; rfl)
    (hE : PassesOwn (model prog w) A env E := by passes_own) :
    wpAny (model prog w) A (exec (.For (.Name x px) iter body [] pos) env) Q E s := For_range h₀ L hh h hs hE
theorem For_listF {target iter : Expr} {body : List Stmt} {pos : Pos} (_F : Fr h₀ L s.heap m) (hh : A.handled = none)
    (h : wpAny (model prog w) A (eval iter env) (ListIn prog w A E Q env h₀ L target body) E s)
    (hs : ∀ x, foldedSetIterable iter env x = pure x := by intro _; rfl)
    (hE : PassesOwn (model prog w) A env E := by passes_own) :
    wpAny (model prog w) A (exec (.For target iter body [] pos) env) Q E s := For_list h₀ L hh h hs hE
end
/-- a table's part of the ledger -/
noncomputable abbrev tabL (C : Addr) (P : Params) (x d l : Addr) (tk0 : Tok) (nL : Nat) (tups : List (Addr × Obj)) : List (Addr × Obj) :=
  (x, instObj C d) :: (d, dictOf [{ hash := PyData.keyHash P (Str.ofString "_headers"), key := .str (Str.ofString "_headers") tk0, val := .ref l }] 1) :: (l, { cls := .type "list", data := .seq (tups.map fun p => Value.ref p.1).toArray nL }) :: tups
noncomputable def TupsOf : List (Addr × Obj) → List (Str × Str) → Prop
  | [], [] => True
  | p :: ps, e :: es => (∃ ta tb, p.2 = { cls := .type "tuple", data := .seq [.str e.1 ta, .str e.2 tb].toArray }) ∧ TupsOf ps es
  | _, _ => False
theorem TupsOf.length : ∀ {ps : List (Addr × Obj)} {es : List (Str × Str)}, TupsOf ps es → ps.length = es.length
  | [], [], _ => rfl
  | _ :: _, _ :: _, ⟨_, t⟩ => by rw [List.length_cons, List.length_cons, TupsOf.length t]
theorem TupsOf.snoc {a : Addr} {x y : Str} {ta tb : Tok} : ∀ {ps : List (Addr × Obj)} {es : List (Str × Str)}, TupsOf ps es → TupsOf (ps ++ [(a, { cls := .type "tuple", data := .seq [.str x ta, .str y tb].toArray })]) (es ++ [(x, y)])
  | [], [], _ => ⟨⟨ta, tb, rfl⟩, trivial⟩
  | _ :: _, _ :: _, ⟨h, t⟩ => ⟨h, TupsOf.snoc t⟩
end Mine

namespace Mine
open PySem PySem.W PySem.Calls PySem.Spec PyProof.Rows
section
variable {prog : Program} {w : World} {A : Around} {E : Value → Shared → Prop} {Q : Flow → Shared → Prop} {s : Shared} {env : Env} {h₀ : Heap} {L : Addr} {m : Str → Option Value} {news : List (Addr × Obj)}
noncomputable def WhileIn (prog : Program) (w : World) (A : Around) (E : Value → Shared → Prop) (Q : Flow → Shared → Prop) (env : Env) (h₀ : Heap) (L : Addr) (test : Expr) (body : List Stmt) (s : Shared) : Prop :=
  ∃ m news n₀ J, Fr h₀ L s.heap m ∧ News h₀ L s.heap news ∧ J n₀ m news ∧ ∀ n m₁ news₁ h₁ tk₁, Fr h₀ L h₁ m₁ → News h₀ L h₁ news₁ → J n m₁ news₁ →
      wpAny (model prog w) A (isTrue test env (eval test env)) (fun b s₂ =>
        if b = true then wpAny (model prog w) A (execs body env) (WhileStep h₀ L s J n) E s₂ else Q .next s₂) E { s with heap := h₁, toks := tk₁ }
theorem While_inF {test : Expr} {body : List Stmt} {pos : Pos} (_F : Fr h₀ L s.heap m) (h : WhileIn prog w A E Q env h₀ L test body s) (hE : PassesOwn (model prog w) A env E := by passes_own) :
    wpAny (model prog w) A (exec (.While test body [] pos) env) Q E s := by
  obtain ⟨m, news, n₀, J, F, N, hJ, turn⟩ := h
  exact While_inv J F N hJ turn hE
theorem while_pack {test : Expr} {body : List Stmt} (J : (Str → Option Value) → List (Addr × Obj) → Nat → (Str → Option Value) → List (Addr × Obj) → Prop) (n₀ : Nat)
    (F : Fr h₀ L s.heap m) (N : News h₀ L s.heap news) (hJ : J m news n₀ m news)
    (turn : ∀ n m₁ news₁ h₁ tk₁, Fr h₀ L h₁ m₁ → News h₀ L h₁ news₁ → J m news n m₁ news₁ →
      wpAny (model prog w) A (isTrue test env (eval test env)) (fun b s₂ =>
        if b = true then wpAny (model prog w) A (execs body env) (WhileStep h₀ L s (J m news) n) E s₂ else Q .next s₂) E { s with heap := h₁, toks := tk₁ }) :
    WhileIn prog w A E Q env h₀ L test body s := ⟨m, news, n₀, J m news, F, N, hJ, turn⟩
end
end Mine
namespace Mine
open PySem PySem.W PySem.Calls PySem.Spec PyProof.Rows
section
variable {prog : Program} {w : World} {A : Around} {E : Value → Shared → Prop} {s : Shared} {env : Env} {h₀ : Heap} {L : Addr} {m : Str → Option Value} {news : List (Addr × Obj)}
theorem pair_assign {a b : Str} {pa pb tp : Pos} {kk : Nat} {T : Addr} {x y : Value} {Q : Unit → Shared → Prop} (F : Fr h₀ env.locals s.heap m) (N : News h₀ env.locals s.heap news) (ht : s.heap.IsTuple T #[x, y]) (hh : A.handled = none)
    (ha : env.kindOf a = some .local) (hb : env.kindOf b = some .local) (hp : (env.scope.kind == .class || (env.scope.kind == .module && env.locals != env.globals)) = false)
    (h : ∀ (h' : Heap) (tk : Nat), Fr h₀ env.locals h' (fun z => if z = b then some y else if z = a then some x else m z) → News h₀ env.locals h' news → Q () { s with heap := h', toks := tk }) :
    wpAny (model prog w) A (assign (.Tuple [.Name a pa, .Name b pb] kk tp) env (.ref T)) Q E s :=
  kcp_assign hh ht ha hb hp F.ns fun h' tk hn hk =>
    h h' tk ⟨hn, fun c o e => hk c o (fun q => by
      subst q
      exact absurd (Nat.lt_of_lt_of_le (Heap.lt_size e) F.above) (Nat.lt_irrefl _)) (F.keep c o e), F.above⟩ fun p hp => ⟨hk p.1 p.2 (N p hp).2.1 (N p hp).1, (N p hp).2⟩
theorem inst_base {h₀ h : Heap} {L x C dx : Addr} {m : Str → Option Value} {od : Obj} {sl : Array (Option Value)} (F : Fr h₀ L h m) (h1 : h₀.get? x = some ⟨.ref C, some dx, .plain, sl⟩) (h2 : h₀.get? dx = some od) :
    InstAt h x ⟨.ref C, some dx, .plain, sl⟩ C (some od) := ⟨F.keep _ _ h1, rfl, rfl, F.keep _ _ h2⟩
end
noncomputable abbrev tupO (vs : List Value) : Obj := { cls := .type "tuple", data := .seq vs.toArray }
noncomputable abbrev lstO (vs : List Value) (n : Nat) : Obj := { cls := .type "list", data := .seq vs.toArray n }
/-- the items are pairs of texts -/
noncomputable def Tups (h : Heap) : List Value → List (Str × Str) → Prop
  | [], [] => True
  | v :: vs, e :: es => (∃ r ta tb, v = .ref r ∧ h.get? r = some (tupO [.str e.1 ta, .str e.2 tb])) ∧ Tups h vs es
  | _, _ => False
theorem Tups.keep {h h' : Heap} (k : Keep h h') : ∀ {vs : List Value} {es : List (Str × Str)}, Tups h vs es → Tups h' vs es
  | [], [], _ => trivial
  | _ :: _, _ :: _, ⟨⟨r, ta, tb, e, g⟩, t⟩ => ⟨⟨r, ta, tb, e, k _ _ g⟩, Tups.keep k t⟩
theorem Tups.length {h : Heap} : ∀ {vs : List Value} {es : List (Str × Str)}, Tups h vs es → vs.length = es.length
  | [], [], _ => rfl
  | _ :: _, _ :: _, ⟨_, t⟩ => by rw [List.length_cons, List.length_cons, Tups.length t]
theorem Tups.at {h : Heap} : ∀ {vs : List Value} {es : List (Str × Str)} {i : Nat} {v : Value}, Tups h vs es → vs[i]? = some v → ∃ e r ta tb, es[i]? = some e ∧ v = .ref r ∧ h.get? r = some (tupO [.str e.1 ta, .str e.2 tb])
  | [], [], _, _, _, e => by cases e
  | _ :: _, x :: _, 0, _, ⟨⟨r, ta, tb, e, g⟩, _⟩, q => by cases q; exact ⟨x, r, ta, tb, rfl, e, g⟩
  | _ :: _, _ :: _, i + 1, _, ⟨_, t⟩, q => by
    obtain ⟨e, r, ta, tb, a, b, c⟩ := Tups.at t (i := i) (by simpa using q)
    exact ⟨e, r, ta, tb, by simpa using a, b, c⟩
theorem Tups.snoc {h : Heap} {r : Addr} {a b : Str} {ta tb : Tok} (g : h.get? r = some (tupO [.str a ta, .str b tb])) : ∀ {vs : List Value} {es : List (Str × Str)}, Tups h vs es → Tups h (vs ++ [.ref r]) (es ++ [(a, b)])
  | [], [], _ => ⟨⟨r, ta, tb, rfl, g⟩, trivial⟩
  | _ :: _, _ :: _, ⟨x, t⟩ => ⟨x, Tups.snoc g t⟩
theorem Tups.refs {h : Heap} : ∀ {vs : List Value} {es : List (Str × Str)}, Tups h vs es → ∀ v ∈ vs, ∃ a, v = .ref a
  | [], [], _, _, hv => by cases hv
  | _ :: _, _ :: _, ⟨⟨r, _, _, e, _⟩, t⟩, v, hv => by
    rcases List.mem_cons.mp hv with rfl | hv
    · exact ⟨r, e⟩
    · exact Tups.refs t v hv
/-- what get gives back -/
noncomputable def GetRes (es : List (Str × Str)) (q : Str) (r : Value) : Prop := match es.find? (fun e => Txt.lower e.1 == q) with
  | some e => ∃ t, r = .str e.2 t
  | none => r = .none
theorem getRes_hit {es : List (Str × Str)} {q : Str} {i : Nat} {e : Str × Str} {t : Tok} (hp : ∀ j e', j < i → es[j]? = some e' → Txt.lower e'.1 ≠ q) (hi : es[i]? = some e) (he : Txt.lower e.1 = q) : GetRes es q (.str e.2 t) := by
  have : es.find? (fun e => Txt.lower e.1 == q) = some e := by
    rw [List.find?_eq_some_iff_getElem]
    obtain ⟨hlt, hg⟩ := List.getElem?_eq_some_iff.mp hi
    refine ⟨by simp [he], i, hlt, hg, fun j hj => ?_⟩
    have := hp j es[j] hj (by simp [Nat.lt_trans hj hlt])
    simp [this]
  unfold GetRes
  rw [this]
  exact ⟨t, rfl⟩
theorem getRes_none {es : List (Str × Str)} {q : Str} (hp : ∀ j e', j < es.length → es[j]? = some e' → Txt.lower e'.1 ≠ q) : GetRes es q .none := by
  have : es.find? (fun e => Txt.lower e.1 == q) = none := by
    rw [List.find?_eq_none]
    intro e he
    obtain ⟨j, hj, hg⟩ := List.mem_iff_getElem.mp he
    have := hp j e hj (by simp [hj, hg])
    simp [this]
  unfold GetRes
  rw [this]
end Mine
namespace Mine
open PySem PySem.W PySem.Calls PySem.Spec PyProof.Rows
theorem low_fit {x : Str} (h : x.length ≤ 1000) : Builtin.Str.tooLong (Txt.lower x).length = false := fit_lower (by omega)
end Mine
namespace Mine
open PySem PySem.W PySem.Calls PySem.Spec PyProof.Rows
theorem addr_ne {h : Heap} {a b : Addr} {oa ob : Obj} (ha : h.get? a = some oa) (hb : h.get? b = some ob) (hne : (oa.cls == ob.cls) = false) : a ≠ b := by
  rintro rfl
  rw [ha] at hb
  cases hb
  simp at hne
theorem Tups.but {h g : Heap} {l : Addr} {ol : Obj} (hl : h.get? l = some ol) (hc : ol.cls = .type "list") (k : ∀ b o, h.get? b = some o → b ≠ l → g.get? b = some o) : ∀ {vs : List Value} {es : List (Str × Str)}, Tups h vs es → Tups g vs es
  | [], [], _ => trivial
  | _ :: _, _ :: _, ⟨⟨r, ta, tb, e, q⟩, t⟩ => ⟨⟨r, ta, tb, e, k _ _ q (addr_ne q hl (by rw [hc]; rfl))⟩, Tups.but hl hc k t⟩
theorem getRes_cases {es : List (Str × Str)} {q : Str} {r : Value} (h : GetRes es q r) : (∃ e t, es.find? (fun e => Txt.lower e.1 == q) = some e ∧ r = .str e.2 t) ∨ (es.find? (fun e => Txt.lower e.1 == q) = none ∧ r = .none) := by
  unfold GetRes at h
  split at h
  · rename_i e he
    obtain ⟨t, rfl⟩ := h
    exact .inl ⟨e, t, he, rfl⟩
  · rename_i he
    exact .inr ⟨he, h⟩
end Mine
namespace Mine
open PySem PySem.W PySem.Calls PySem.Spec PyProof.Rows
theorem TupsOf.tups {h₀ h : Heap} {L : Addr} : ∀ {ps : List (Addr × Obj)} {es : List (Str × Str)}, TupsOf ps es → News h₀ L h ps → Tups h (ps.map fun p => Value.ref p.1) es
  | [], [], _, _ => trivial
  | p :: ps, e :: es, ⟨⟨ta, tb, q⟩, t⟩, N => ⟨⟨p.1, ta, tb, rfl, by rw [(N p (.head _)).1, q]⟩, TupsOf.tups t fun x hx => N x (.tail _ hx)⟩
end Mine
namespace Mine
open PySem PySem.W PySem.Calls PySem.Spec PyProof.Rows
section
variable {prog : Program} {w : World} {A : Around} {E : Value → Shared → Prop} {s : Shared} {K : Frag} {h₀ : Heap} {L : Addr} {m : Str → Option Value}
theorem search_meth {a : Addr} {d : Data} {sl : Array (Option Value)} {pl : Sem Bool} {Q : Value × List Value → Shared → Prop} (F : Fr h₀ L s.heap m) (X : K.In h₀) (ho : K.lookup a = some ⟨.type "re.Pattern", none, d, sl⟩)
    (h : Q (.builtin "re.Pattern.search", [.ref a]) s) : wpAny (model prog w) A (getMethod (.ref a) (Str.ofString "search") pl) Q E s :=
  have e := F.keep _ _ (X _ _ ho)
  getMethod_builtin ⟨_, e, rfl⟩ re_attrs re_slot re_type (fun _ q => by cases q; exact ⟨_, e, rfl⟩) h
theorem search_name {a c : Addr} {x : Str} {t : Tok} {pat fl g1 g2 : Value} {gt k0 : Tok} {items : Array Value} {n : Nat} {Q : Value → Shared → Prop} (F : Fr h₀ L s.heap m) (X : K.In h₀)
    (ha : K.lookup a = some ⟨.type "re.Pattern", none, .fields #[pat, fl, .int 0 gt, g1, g2, .ref c, .int 0 k0], #[]⟩)
    (hc : K.lookup c = some ⟨.type "tuple", none, .seq items n, #[]⟩) (hcode : (items.map Builtin.Re.reRawOf).map (·.toNat) = nameCode) (hn : Fine x) (hx : x.length ≤ 1048576) (h : Q .none s) :
    wpAny (model prog w) A (call (.builtin "re.Pattern.search") [.ref a, .str x t]) Q E s :=
  call_search (F.keep _ _ (X _ _ ha)) (F.keep _ _ (X _ _ hc)) hcode rfl rfl (noSign_name hn) hx h
theorem search_val {a c : Addr} {x : Str} {t : Tok} {pat fl g1 g2 : Value} {gt k0 : Tok} {items : Array Value} {n : Nat} {Q : Value → Shared → Prop} (F : Fr h₀ L s.heap m) (X : K.In h₀)
    (ha : K.lookup a = some ⟨.type "re.Pattern", none, .fields #[pat, fl, .int 0 gt, g1, g2, .ref c, .int 0 k0], #[]⟩)
    (hc : K.lookup c = some ⟨.type "tuple", none, .seq items n, #[]⟩) (hcode : (items.map Builtin.Re.reRawOf).map (·.toNat) = valCode) (hn : Fine x) (hx : x.length ≤ 1048576) (h : Q .none s) :
    wpAny (model prog w) A (call (.builtin "re.Pattern.search") [.ref a, .str x t]) Q E s :=
  call_search (F.keep _ _ (X _ _ ha)) (F.keep _ _ (X _ _ hc)) hcode rfl rfl (noSign_val hn) hx h
end
end Mine
namespace Mine
open PySem PySem.W PySem.Calls PySem.Spec PyProof.Rows
section
variable {prog : Program} {w : World} {A : Around} {E : Value → Shared → Prop} {Q : Flow → Shared → Prop} {s : Shared} {env : Env} {h₀ : Heap} {L : Addr}

/-- what a text's loop wants behind its iterable (every sign below 128) -/
noncomputable def TextIn (prog : Program) (w : World) (A : Around) (E : Value → Shared → Prop) (Q : Flow → Shared → Prop) (env : Env) (h₀ : Heap) (L : Addr) (target : Expr) (body : List Stmt) (xv : Value) (s₁ : Shared) : Prop :=
  ∃ x t m news, xv = .str x t ∧ Fr h₀ L s₁.heap m ∧ News h₀ L s₁.heap news ∧ x.cps.all (· < 128) = true ∧
      ∃ J : Nat → (Str → Option Value) → List (Addr × Obj) → Prop, J 0 m news ∧
      (∀ i c tv m₁ news₁ h₁ tk₁ I oI, x.cps[i]? = some c → J i m₁ news₁ → Fr h₀ L h₁ m₁ → News h₀ L h₁ ((I, oI) :: news₁) → (∀ p ∈ news₁, p.1 ≠ I) →
        wpAny (model prog w) A (assign target env (.str ⟨#[c]⟩ tv)) (fun _ s₂ => wpAny (model prog w) A (execs body env) (TurnEnd h₀ L s₁ I oI (J (i + 1)) Q) E s₂) E { s₁ with heap := h₁, toks := tk₁ }) ∧
      (∀ m₁ news₁ h₁ tk₁, J x.cps.size m₁ news₁ → Fr h₀ L h₁ m₁ → News h₀ L h₁ news₁ → Q .next { s₁ with heap := h₁, toks := tk₁ })

theorem For_text {y : Str} {px : Pos} {iter : Expr} {body : List Stmt} {pos : Pos} (h₀ : Heap) (L : Addr) (hh : A.handled = none)
    (h : wpAny (model prog w) A (eval iter env) (TextIn prog w A E Q env h₀ L (.Name y px) body) E s)
    (hs : ∀ x, foldedSetIterable iter env x = pure x := by intro _; rfl)
    (hE : PassesOwn (model prog w) A env E := by passes_own) :
    wpAny (model prog w) A (exec (.For (.Name y px) iter body [] pos) env) Q E s := by
  refine wpAny_For (wpAny_mono h (fun xv s₁ h₁ => ?_) fun _ _ e => e) hs
  obtain ⟨x, t, m, news, rfl, F, N, ha, J, hJ, turn, done⟩ := h₁
  refine wpAny_pyIter_ascii ha ?_
  have hIL : ∀ p ∈ news, p.1 ≠ s₁.heap.objs.size := fun p hp => Nat.ne_of_lt (Heap.lt_size (N p hp).1)
  have hn0 : h₀.get? s₁.heap.objs.size = none := by
    cases q : h₀.get? s₁.heap.objs.size with
    | none => rfl
    | some o => exact absurd (Heap.lt_size (F.keep _ _ q)) (Nat.lt_irrefl _)
  have hLI : L ≠ s₁.heap.objs.size := by
    obtain ⟨oL, _, _, hL, _⟩ := F.ns
    exact Nat.ne_of_lt (Heap.lt_size hL)
  have F' := F.push { cls := .type "str_ascii_iterator", data := .fields #[.str x t, .int 0 0] }
  have N' : News h₀ L (s₁.heap.push { cls := .type "str_ascii_iterator", data := .fields #[.str x t, .int 0 0] }) news := fun p hp => ⟨Heap.get?_push_of_some _ (N p hp).1, (N p hp).2⟩
  have hI : (s₁.heap.push { cls := .type "str_ascii_iterator", data := .fields #[.str x t, .int 0 0] }).IsStrIter s₁.heap.objs.size "str_ascii_iterator" x t 0 := ⟨_, Heap.get?_push_size _ rfl, rfl, rfl⟩
  generalize s₁.heap.push { cls := .type "str_ascii_iterator", data := .fields #[.str x t, .int 0 0] } = hp at F' N' hI
  generalize s₁.heap.objs.size = I at *
  refine codeAny_forLoop_any (fun k s' => ∃ h' tk m' news' i, s' = { s₁ with heap := h', toks := tk } ∧ h'.IsStrIter I "str_ascii_iterator" x t i ∧ Fr h₀ L h' m' ∧ News h₀ L h' news' ∧ (∀ p ∈ news', p.1 ≠ I) ∧ J i m' news' ∧ i ≤ x.cps.size ∧ k = x.cps.size + 1 - i) ?_ (x.cps.size + 1)
    ⟨hp, s₁.toks, m, news, 0, rfl, hI, F', N', hIL, hJ, Nat.zero_le _, rfl⟩
  rintro k s' ⟨h', tk, m', news', i, rfl, hI', F₁, N₁, hn₁, hJ₁, hi, rfl⟩
  by_cases hlt : i < x.cps.size
  · have hx : x.cps[i]? = some x.cps[i] := by simp [hlt]
    refine wpAny_pyNext_ascii_item hI' hx fun h₂ hI₂ hs₂ => ?_
    refine go_any ?_
    have F₂ : Fr h₀ L h₂ m' := ⟨F₁.ns.sameBut hs₂ hLI, fun b o e => (hs₂.2 b (fun q => by rw [q, hn0] at e; cases e)).trans (F₁.keep b o e), F₁.above⟩
    have N₂ : News h₀ L h₂ news' := fun p hp => ⟨(hs₂.2 p.1 (hn₁ p hp)).trans (N₁ p hp).1, (N₁ p hp).2⟩
    obtain ⟨oI, hoI, hcI, hdI⟩ := id hI₂
    have N₃ : News h₀ L h₂ ((I, oI) :: news') := by
      intro p hp
      rcases List.mem_cons.mp hp with rfl | hp
      · exact ⟨hoI, fun e => hLI e.symm, hn0⟩
      · exact N₂ p hp
    refine wpAny_mono (wpAny_passesOwn hE (turn i _ _ m' news' h₂ (tk + 1) I oI hx hJ₁ F₂ N₃ hn₁)) (fun _ s₂ h₂ => ?_) fun _ _ e => e
    refine wpAny_mono (wpAny_passesOwn hE h₂) (fun f s₃ h₃ => ?_) fun _ _ e => e
    have fin : (∃ h' tk m₂ news₂, s₃ = { s₁ with heap := h', toks := tk } ∧ Fr h₀ L h' m₂ ∧ News h₀ L h' ((I, oI) :: news₂) ∧ (∀ p ∈ news₂, p.1 ≠ I) ∧ J (i + 1) m₂ news₂) →
        ∃ m, m < x.cps.size + 1 - i ∧ ∃ h' tk m' news' i, s₃ = { s₁ with heap := h', toks := tk } ∧ h'.IsStrIter I "str_ascii_iterator" x t i ∧ Fr h₀ L h' m' ∧ News h₀ L h' news' ∧ (∀ p ∈ news', p.1 ≠ I) ∧ J i m' news' ∧ i ≤ x.cps.size ∧ m = x.cps.size + 1 - i := by
      rintro ⟨h3, tk3, m3, news3, rfl, F3, N3, hn3, J3⟩
      refine ⟨x.cps.size + 1 - (i + 1), by omega, h3, tk3, m3, news3, i + 1, rfl, ⟨oI, (N3 _ (.head _)).1, hcI, hdI⟩, F3, fun p hp => N3 p (.tail _ hp), hn3, J3, hlt, rfl⟩
    cases f with
    | next => exact fin h₃
    | cont => exact fin h₃
    | brk => exact h₃
    | ret v => exact h₃
  · have hin : i = x.cps.size := by omega
    subst hin
    refine wpAny_pyNext_ascii_end hh hI' (by simp) fun h₂ hs₂ => ?_
    refine wpAny_execs_nil ?_
    exact done m' news' h₂ tk hJ₁ ⟨F₁.ns.at' fun o e => hs₂ _ o hLI e, fun b o e => hs₂ b o (fun q => by rw [q, hn0] at e; cases e) (F₁.keep b o e), F₁.above⟩ fun p hp => ⟨hs₂ _ _ (hn₁ p hp) (N₁ p hp).1, (N₁ p hp).2⟩

theorem For_textF {y : Str} {px : Pos} {iter : Expr} {body : List Stmt} {pos : Pos} {m : Str → Option Value} (_F : Fr h₀ L s.heap m) (hh : A.handled = none)
    (h : wpAny (model prog w) A (eval iter env) (TextIn prog w A E Q env h₀ L (.Name y px) body) E s)
    (hs : ∀ x, foldedSetIterable iter env x = pure x := by intro _; rfl)
    (hE : PassesOwn (model prog w) A env E := by passes_own) :
    wpAny (model prog w) A (exec (.For (.Name y px) iter body [] pos) env) Q E s := For_text h₀ L hh h hs hE
theorem text_pack {target : Expr} {body : List Stmt} {s₁ : Shared} {x : Str} {t : Tok} {m : Str → Option Value} {news : List (Addr × Obj)} (J : (Str → Option Value) → List (Addr × Obj) → Nat → (Str → Option Value) → List (Addr × Obj) → Prop)
    (ha : x.cps.all (· < 128) = true) (F : Fr h₀ L s₁.heap m) (N : News h₀ L s₁.heap news) (hJ : J m news 0 m news)
    (turn : ∀ i c tv m₁ news₁ h₁ tk₁ I oI, x.cps[i]? = some c → J m news i m₁ news₁ → Fr h₀ L h₁ m₁ → News h₀ L h₁ ((I, oI) :: news₁) → (∀ p ∈ news₁, p.1 ≠ I) →
        wpAny (model prog w) A (assign target env (.str ⟨#[c]⟩ tv)) (fun _ s₂ => wpAny (model prog w) A (execs body env) (TurnEnd h₀ L s₁ I oI (J m news (i + 1)) Q) E s₂) E { s₁ with heap := h₁, toks := tk₁ })
    (done : ∀ m₁ news₁ h₁ tk₁, J m news x.cps.size m₁ news₁ → Fr h₀ L h₁ m₁ → News h₀ L h₁ news₁ → Q .next { s₁ with heap := h₁, toks := tk₁ }) :
    TextIn prog w A E Q env h₀ L target body (.str x t) s₁ :=
  ⟨x, t, m, news, rfl, F, N, ha, J m news, hJ, turn, done⟩
end
end Mine
namespace Mine
open PySem PySem.W PySem.Calls PySem.Spec PyProof.Rows
noncomputable def SmallP (ps : List Int) : Prop := ∀ a ∈ ps, 0 ≤ a ∧ a ≤ 11
theorem SmallP.at {ps : List Int} (h : SmallP ps) {a : Int} (ha : a ∈ ps) : 0 ≤ a ∧ a ≤ 11 := h a ha
/-- one port's run -/
noncomputable abbrev pieceF (a : Int) : Str := Txt.mul (Str.ofString " ") a ++ Str.ofString "\t"
noncomputable def leadT (ps : List Int) : Str := Txt.join (Str.ofString "") (ps.map pieceF)
noncomputable def upTo (N : Int) : List Int := (List.range N.toNat).map fun k : Nat => (k : Int)
noncomputable def codesF (ps : List Int) : List Nat := ps.flatMap fun a => List.replicate a.toNat 32 ++ [9]
theorem piece_all : ∀ n : Fin 12, (pieceF (n.1 : Int)).cps.toList = List.replicate n.1 32 ++ [9] := by decide +kernel
theorem piece_cps {a : Int} (h0 : 0 ≤ a) (h1 : a ≤ 11) : (pieceF a).cps.toList = List.replicate a.toNat 32 ++ [9] := by
  obtain ⟨n, rfl⟩ := Int.eq_ofNat_of_zero_le h0
  exact piece_all ⟨n, by omega⟩
theorem piece_len {a : Int} (h0 : 0 ≤ a) (h1 : a ≤ 11) : (pieceF a).length ≤ 12 := by
  have := piece_cps h0 h1
  have h2 := congrArg List.length this
  simp only [Array.length_toList, List.length_append, List.length_replicate, List.length_cons, List.length_nil] at h2
  show (pieceF a).cps.size ≤ 12
  omega
theorem join_cps : ∀ l : List Str, (Txt.join (Str.ofString "") l).cps.toList = l.flatMap fun x => x.cps.toList := by
  intro l
  show (Builtin.Str.glued (Str.ofString "") l).cps.toList = _
  rw [StrLaws.glued_eq_join]
  induction l with
  | nil => rfl
  | cons x r ih =>
    cases r with
    | nil => simp [Str.join]
    | cons y r =>
      have e : Str.join (Str.ofString "") (x :: y :: r) = x ++ Str.ofString "" ++ Str.join (Str.ofString "") (y :: r) := rfl
      rw [e, cps_toList_append, cps_toList_append, ih]
      simp
      rfl
theorem lead_cps {ps : List Int} (h : SmallP ps) : (leadT ps).cps.toList = codesF ps := by
  unfold leadT codesF
  rw [join_cps, List.flatMap_map]
  have : ∀ qs : List Int, (∀ a ∈ qs, a ∈ ps) → (qs.flatMap fun a => (pieceF a).cps.toList) = qs.flatMap fun a => List.replicate a.toNat 32 ++ [9] := by
    intro qs
    induction qs with
    | nil => intro _; rfl
    | cons q r ih =>
      intro hq
      rw [List.flatMap_cons, List.flatMap_cons, ih (fun a ha => hq a (.tail _ ha)), piece_cps (h q (hq q (.head _))).1 (h q (hq q (.head _))).2]
  exact this ps fun _ h => h
theorem codes_mem {ps : List Int} {c : Nat} (h : c ∈ codesF ps) : c = 32 ∨ c = 9 := by
  unfold codesF at h
  obtain ⟨a, _, h⟩ := List.mem_flatMap.mp h
  rcases List.mem_append.mp h with h | h
  · exact .inl (List.eq_of_mem_replicate h)
  · exact .inr (List.mem_singleton.mp h)
theorem codes_len {ps : List Int} (h : SmallP ps) : (codesF ps).length ≤ 12 * ps.length := by
  unfold codesF
  induction ps with
  | nil => simp
  | cons q r ih =>
    have := ih fun a ha => h a (.tail _ ha)
    have := (h q (.head _)).2
    have := (h q (.head _)).1
    simp only [List.flatMap_cons, List.length_append, List.length_replicate, List.length_cons, List.length_nil] at *
    omega
/-- the text's weight -/
theorem lead_len {ps : List Int} (h : SmallP ps) (hl : ps.length ≤ 6) : (leadT ps).length ≤ 72 := by
  have := codes_len h
  have e := congrArg List.length (lead_cps h)
  rw [Array.length_toList] at e
  show (leadT ps).cps.size ≤ 72
  omega
theorem all_of (x : Str) (h : ∀ c ∈ x.cps.toList, c = 32 ∨ c = 9) : x.cps.all (· < 128) = true := by
  rw [← Array.all_toList, List.all_eq_true]
  intro c hc
  rcases h c hc with rfl | rfl <;> decide
/-- one tab more behind b blanks -/
noncomputable def bumpF (cs : List Int) (b : Nat) : List Int := (cs ++ List.replicate (b + 1 - cs.length) 0).set b ((cs ++ List.replicate (b + 1 - cs.length) 0).getD b 0 + 1)
structure WsSt where
  cs : List Int
  b : Nat
  n : Nat
  nt : Nat
noncomputable def wsStep (st : WsSt) (c : Nat) : WsSt := if c = 32 then ⟨st.cs, st.b + 1, st.n + 1, st.nt⟩ else ⟨bumpF st.cs st.b, 0, st.n + 1, st.nt + 1⟩
noncomputable def wsFold (l : List Nat) : WsSt := l.foldl wsStep ⟨[], 0, 0, 0⟩
theorem wsFold_snoc (l : List Nat) (c : Nat) : wsFold (l ++ [c]) = wsStep (wsFold l) c := by
  unfold wsFold
  rw [List.foldl_append]
  rfl
theorem bump_len (cs : List Int) (b : Nat) : (bumpF cs b).length = max cs.length (b + 1) := by
  unfold bumpF
  rw [List.length_set, List.length_append, List.length_replicate]
  omega
noncomputable def WsOk (st : WsSt) (k : Nat) : Prop := st.cs.length + st.b ≤ k ∧ st.n = k ∧ st.nt ≤ k ∧ ∀ a ∈ st.cs, 0 ≤ a ∧ a ≤ k
theorem ext_mem {cs : List Int} {j k : Nat} (h : ∀ a ∈ cs, 0 ≤ a ∧ a ≤ (k : Int)) : ∀ a ∈ cs ++ List.replicate j (0 : Int), 0 ≤ a ∧ a ≤ (k : Int) := by
  intro a ha
  rcases List.mem_append.mp ha with ha | ha
  · exact h a ha
  · rw [List.eq_of_mem_replicate ha]
    omega
theorem ws_step {st : WsSt} {k : Nat} (h : WsOk st k) (c : Nat) : WsOk (wsStep st c) (k + 1) := by
  obtain ⟨h1, h2, h3, h4⟩ := h
  unfold wsStep
  split
  · exact ⟨by simp only; omega, by simp only; omega, by simp only; omega, fun a ha => by have := h4 a ha; omega⟩
  · refine ⟨?_, by simp only; omega, by simp only; omega, ?_⟩
    · simp only [bump_len]
      omega
    · intro a ha
      simp only [bumpF] at ha
      have hext := ext_mem (j := st.b + 1 - st.cs.length) h4
      rcases List.mem_or_eq_of_mem_set ha with ha | rfl
      · have := hext a ha
        omega
      · have hin : st.b < (st.cs ++ List.replicate (st.b + 1 - st.cs.length) (0 : Int)).length := by
          rw [List.length_append, List.length_replicate]
          omega
        have e : (st.cs ++ List.replicate (st.b + 1 - st.cs.length) (0 : Int)).getD st.b 0 = (st.cs ++ List.replicate (st.b + 1 - st.cs.length) (0 : Int))[st.b] := by
          rw [List.getD_eq_getElem?_getD, List.getElem?_eq_getElem hin]
          rfl
        rw [e]
        have := hext _ (List.getElem_mem hin)
        omega
theorem ws_run : ∀ (l : List Nat) {st : WsSt} {k : Nat}, WsOk st k → WsOk (l.foldl wsStep st) (k + l.length)
  | [], _, _, h => h
  | c :: l, st, k, h => by
    have := ws_run l (ws_step h c)
    rw [List.foldl_cons, List.length_cons, show k + (l.length + 1) = k + 1 + l.length from by omega]
    exact this
theorem ws_ok (l : List Nat) : WsOk (wsFold l) l.length := by
  have := ws_run l (st := ⟨[], 0, 0, 0⟩) (k := 0) ⟨by simp, rfl, by simp, fun a h => by cases h⟩
  rw [Nat.zero_add] at this
  exact this
theorem ws_take {l : List Nat} {i c : Nat} (h : l[i]? = some c) : wsFold (l.take (i + 1)) = wsStep (wsFold (l.take i)) c := by
  obtain ⟨hi, rfl⟩ := List.getElem?_eq_some_iff.mp h
  rw [List.take_succ_eq_append_getElem hi, wsFold_snoc]
/-- a Whitespace's five names -/
noncomputable abbrev wsDict (P : Params) (k1 k2 k3 k4 k5 : Tok) (raw n nt norm sv : Value) : Obj := dictOf [{ hash := PyData.keyHash P (Str.ofString "raw"), key := .str (Str.ofString "raw") k1, val := raw }, { hash := PyData.keyHash P (Str.ofString "n"), key := .str (Str.ofString "n") k2, val := n }, { hash := PyData.keyHash P (Str.ofString "nt"), key := .str (Str.ofString "nt") k3, val := nt }, { hash := PyData.keyHash P (Str.ofString "norm"), key := .str (Str.ofString "norm") k4, val := norm }, { hash := PyData.keyHash P (Str.ofString "is_simple"), key := .str (Str.ofString "is_simple") k5, val := sv }] 5
/-- a Whitespace's part of the ledger -/
noncomputable abbrev wsL (C : Addr) (P : Params) (x d D1 D2 : Addr) (k1 k2 k3 k4 k5 : Tok) (raw n nt b sv : Value) (vs : List Value) : List (Addr × Obj) :=
  [(x, instObj C d), (d, wsDict P k1 k2 k3 k4 k5 raw n nt (.ref D2) sv), (D2, tupO [.ref D1, b]), (D1, tupO vs)]
/-- x is a Whitespace of this state -/
noncomputable def WsAt (C : Addr) (P : Params) (h : Heap) (x : Addr) (st : WsSt) : Prop := ∃ d D1 D2 k1 k2 k3 k4 k5 tn tt tb rv sv vs, (∀ p ∈ wsL C P x d D1 D2 k1 k2 k3 k4 k5 rv (.int st.n tn) (.int st.nt tt) (.int st.b tb) sv vs, h.get? p.1 = some p.2) ∧ IntsAre vs st.cs
theorem ws_facts {C : Addr} {P : Params} {h : Heap} {x d D1 D2 : Addr} {k1 k2 k3 k4 k5 : Tok} {rv n nt b sv : Value} {vs : List Value} (H : ∀ p ∈ wsL C P x d D1 D2 k1 k2 k3 k4 k5 rv n nt b sv vs, h.get? p.1 = some p.2) :
    h.get? x = some (instObj C d) ∧ h.get? d = some (wsDict P k1 k2 k3 k4 k5 rv n nt (.ref D2) sv) ∧ h.get? D2 = some (tupO [.ref D1, b]) ∧ h.get? D1 = some (tupO vs) :=
  ⟨H _ (.head _), H _ (.tail _ (.head _)), H _ (.tail _ (.tail _ (.head _))), H _ (.tail _ (.tail _ (.tail _ (.head _))))⟩
/-- the column behind the first i classes of runs -/
noncomputable def ilF (cs : List Int) (tab : Int) : Nat → Int
  | 0 => 0
  | i + 1 => ilF cs tab i + Int.fdiv (tab + i) tab * cs.getD (tab + (i : Int)).toNat 0
noncomputable def levelF (st : WsSt) (tab : Int) : Int := st.b + tab * (ilF st.cs tab ((st.cs.length : Int) - tab).toNat + st.nt)
end Mine
namespace Mine
open PySem PySem.W PySem.Calls PySem.Spec PyProof.Rows
section
variable {prog : Program} {w : World} {A : Around} {E : Value → Shared → Prop} {s : Shared} {value slice : PySem.Expr} {x y z : PySem.Str} {t u v : Tok} {i k : Int} {Q : Value → Shared → Prop} {h₀ : Heap} {L : Addr} {m : PySem.Str → Option Value} {news : List (Addr × Obj)}
theorem find3_known (e : (Txt.find3 x z i : Int) = k) (h : ∀ t' j, Q (.int k t') { s with toks := j }) : wpAny (model prog w) A (call (.builtin "str.find") [.str x t, .str z u, .int i v]) Q E s := SC.find3 (by rw [e]; exact h _ _)
theorem split_known {a b c d e5 : PySem.Str} (e : Txt.split x y = [a, b, c, d, e5]) (hF : Fr h₀ L s.heap m) (hN : News h₀ L s.heap news) (hy : (y.length == 0) = false) (hx : x.length ≤ 1000)
    (h : ∀ D h' j ta tb tc td te, Fr h₀ L h' m → News h₀ L h' ((D, listOf #[.str a ta, .str b tb, .str c tc, .str d td, .str e5 te] 0) :: news) → (∀ p ∈ news, p.1 < D) → Q (.ref D) { s with heap := h', toks := j }) :
    wpAny (model prog w) A (call (.builtin "str.split") [.str x t, .str y u]) Q E s := by
  refine KSpl.split1 hF hN hy (fun D l h' j el _ F N lo => ?_) (by rw [sizeLine_eq]; omega)
  rw [e] at el
  obtain ⟨ta, l1, rfl, e1⟩ := KSpl.cons_of el
  obtain ⟨tb, l2, rfl, e2⟩ := KSpl.cons_of e1
  obtain ⟨tc, l3, rfl, e3⟩ := KSpl.cons_of e2
  obtain ⟨td, l4, rfl, e4⟩ := KSpl.cons_of e3
  obtain ⟨te, l5, rfl, e5⟩ := KSpl.cons_of e4
  have := KSpl.nil_of e5
  subst this
  exact h D h' j ta tb tc td te F N lo
theorem int_known (e : PySem.intText? x = some k) (hl : x.length ≤ 640) (h : ∀ t' j, Q (.int k t') { s with toks := j }) : wpAny (model prog w) A (call (.type "int") [.str x t]) Q E s :=
  PySem.W.KIN.call_text e hl (h _ _)
end
structure IsReply (resp : Str) (port r : Int) (a b c prt e5 : Str) : Prop where
  len : (resp.length : Int) = r + 1
  lo : 12 ≤ r
  hi : r ≤ 30
  s3 : Txt.slice resp none (some 3) = Str.ofString "229"
  f1 : Txt.find resp (Str.ofString "(") = 7
  f2 : Txt.find3 resp (Str.ofString ")") (7 + 1) = r
  i2 : Txt.item resp (7 + 1) = Txt.item resp (r - 1)
  sl : (Txt.slice resp (some (7 + 1)) (some r)).length ≤ 1000
  sp : Txt.split (Txt.slice resp (some (7 + 1)) (some r)) (Txt.item resp (7 + 1)) = [a, b, c, prt, e5]
  ml : ((Txt.item resp (7 + 1)).length == 0) = false
  it : PySem.intText? prt = some port
  pl : prt.length ≤ 640
theorem tup_base {h₀ h : Heap} {L a : Addr} {m : Str → Option Value} {vs : List Value} (F : Fr h₀ L h m) (e : h₀.get? a = some (tupO vs)) : IsTup h a vs.toArray := ⟨_, F.keep _ _ e, rfl, _, rfl⟩
end Mine
namespace Mine
open PySem PySem.W PySem.Calls PySem.Spec PyProof.Rows
theorem ints_reads {h : Heap} : ∀ {vs : List Value} {cs : List Int}, IntsAre vs cs → ReadsAll h vs (cs.map PyData.int) []
  | _, _, .nil => .nil
  | _, _, .cons i t r => .cons (as := []) (bs := []) (Reads.int i t) (ints_reads r)
theorem norm_reads {h : Heap} {D1 D2 : Addr} {vs : List Value} {cs : List Int} {b : Int} {tb : Tok} (g2 : h.get? D2 = some (tupO [.ref D1, .int b tb])) (g1 : h.get? D1 = some (tupO vs)) (hi : IntsAre vs cs) :
    Reads h (.ref D2) (.tuple [.tuple (cs.map PyData.int), .int b]) [] :=
  reads_tuple_at g2 rfl rfl (.cons (as := []) (bs := []) (reads_tuple_at g1 rfl rfl (ints_reads hi)) (.cons (as := []) (bs := []) (Reads.int b tb) .nil))
theorem norm_shaped (cs : List Int) (b : Int) : SeqAt.shaped (.tuple [.tuple (cs.map PyData.int), .int b]) = true := by
  simp [SeqAt.shaped, PyData.canLay0, PyData.canLayAll0, PyData.depth, PyData.depthAll, ke_canLayAll0, ke_depthAll]
theorem norm_eq {prog : Program} {w : World} {A : Around} {E : Value → Shared → Prop} {s : Shared} {Q : Value → Shared → Prop} {D1 D2 D1' D2' : Addr} {vs vs' : List Value} {cs cs' : List Int} {b b' : Nat} {tb tb' : Tok}
    (g2 : s.heap.get? D2 = some (tupO [.ref D1, .int b tb])) (g1 : s.heap.get? D1 = some (tupO vs)) (hi : IntsAre vs cs)
    (g2' : s.heap.get? D2' = some (tupO [.ref D1', .int b' tb'])) (g1' : s.heap.get? D1' = some (tupO vs')) (hi' : IntsAre vs' cs') (hu : A.units + 64 < cLine)
    (h : Q (.bool (decide (cs = cs' ∧ b = b'))) s) : wpAny (model prog w) A (compareOp .Eq (.ref D2) (.ref D2')) Q E s := by
  refine eq_dataH_same (norm_reads g2 g1 hi) (norm_reads g2' g1' hi') (norm_shaped cs b) (norm_shaped cs' b') hu ?_ ?_
  · simp only [SeqAt.noMix, SeqAt.noMixAll, Bool.and_true]
    exact noMix_ints cs cs'
  · have e : PySem.Spec.same (.tuple [.tuple (cs.map PyData.int), .int (b : Int)]) (.tuple [.tuple (cs'.map PyData.int), .int (b' : Int)]) = decide (cs = cs' ∧ b = b') := by
      simp only [PySem.Spec.same, PySem.Spec.sameAll, Bool.and_true]
      rw [same_ints]
      by_cases h1 : cs = cs' <;> by_cases h2 : b = b' <;> simp [h1, h2, Int.natCast_inj]
    rw [e]
    exact h
theorem tup_len {prog : Program} {w : World} {A : Around} {E : Value → Shared → Prop} {s : Shared} {Q : Value → Shared → Prop} {h₀ : Heap} {L D : Addr} {m : Str → Option Value} {vs : List Value} {cs : List Int}
    (F : Fr h₀ L s.heap m) (e : h₀.get? D = some (tupO vs)) (hi : IntsAre vs cs) (hz : cs.length ≤ 16384) (h : Q (.int cs.length (s.toks + 1)) { s with toks := s.toks + 1 + 1 }) : wpAny (model prog w) A (call (.builtin "len") [.ref D]) Q E s :=
  kun_lenT (items := vs.toArray) ⟨_, F.keep _ _ e, rfl, _, rfl⟩ (by rw [List.size_toArray, hi.length]) (by omega) h
theorem tup_item {prog : Program} {w : World} {A : Around} {E : Value → Shared → Prop} {s : Shared} {value slice : PySem.Expr} {Q : Value → Shared → Prop} {h₀ : Heap} {L D : Addr} {m : Str → Option Value} {vs : List Value} {cs : List Int} {k : Int} {u : Tok}
    (F : Fr h₀ L s.heap m) (e : h₀.get? D = some (tupO vs)) (hi : IntsAre vs cs) (h0 : 0 ≤ k) (h1 : k < cs.length) (hz : k < 2 ^ 63) (h : ∀ t, Q (.int (cs.getD k.toNat 0) t) s)
    (hs : subscripted slice false (.ref D) (.int k u) = operate [.ref D, .int k u] (getItem (.ref D) (.int k u)) := by with_unfolding_all rfl) :
    wpAny (model prog w) A (subscriptTail value slice (.ref D) (.int k u)) Q E s := by
  obtain ⟨t, hx⟩ := hi.get k.toNat _ (ints_getD h0 h1)
  have hj : seqIndex? k vs.length = some k.toNat := by
    have := hi.length
    unfold seqIndex?
    simp only
    rw [if_neg (by omega : ¬ k < 0), if_pos (by simp; omega)]
  exact item_tupleT (l := vs) ⟨_, F.keep _ _ e, rfl, _, rfl⟩ (by omega) hz hj hx (h t) hs
theorem WsAt.keep {C : Addr} {P : Params} {h h' : Heap} {x : Addr} {st : WsSt} (k : ∀ b o, h.get? b = some o → h'.get? b = some o) (hx : WsAt C P h x st) : WsAt C P h' x st := by
  obtain ⟨d, D1, D2, k1, k2, k3, k4, k5, tn, tt, tb, rv, sv, vs, H, hi⟩ := hx
  exact ⟨d, D1, D2, k1, k2, k3, k4, k5, tn, tt, tb, rv, sv, vs, fun p hp => k _ _ (H p hp), hi⟩
/-- bounds of a Whitespace -/
structure WsLow (st : WsSt) : Prop where
  l : st.cs.length ≤ 20
  b : st.b ≤ 100
  nt : st.nt ≤ 100
  c : ∀ a ∈ st.cs, 0 ≤ a ∧ a ≤ 100
noncomputable abbrev longF (st : WsSt) : Int := max ((st.cs.length : Int) - 1) st.b
noncomputable def witF (st st' : WsSt) : Nat → List (Int × Int × Int)
  | 0 => []
  | i + 1 => witF st st' i ++ (if levelF st (1 + (i : Int)) = levelF st' (1 + (i : Int)) then [] else [(1 + (i : Int), levelF st (1 + (i : Int)), levelF st' (1 + (i : Int)))])
noncomputable def witnessF (st st' : WsSt) : List (Int × Int × Int) := witF st st' (max (longF st) (longF st') + 1).toNat
/-- tuples of three ints -/
noncomputable def TripOf : List (Addr × Obj) → List (Int × Int × Int) → Prop
  | [], [] => True
  | p :: ps, e :: es => (∃ ta tb tc, p.2 = { cls := .type "tuple", data := .seq [.int e.1 ta, .int e.2.1 tb, .int e.2.2 tc].toArray }) ∧ TripOf ps es
  | _, _ => False
theorem TripOf.length : ∀ {ps : List (Addr × Obj)} {es : List (Int × Int × Int)}, TripOf ps es → ps.length = es.length
  | [], [], _ => rfl
  | _ :: _, _ :: _, ⟨_, t⟩ => by rw [List.length_cons, List.length_cons, TripOf.length t]
theorem TripOf.snoc {a : Addr} {x y z : Int} {ta tb tc : Tok} : ∀ {ps : List (Addr × Obj)} {es : List (Int × Int × Int)}, TripOf ps es → TripOf (ps ++ [(a, { cls := .type "tuple", data := .seq [.int x ta, .int y tb, .int z tc].toArray })]) (es ++ [(x, y, z)])
  | [], [], _ => ⟨⟨ta, tb, tc, rfl⟩, trivial⟩
  | _ :: _, _ :: _, ⟨h, t⟩ => ⟨h, TripOf.snoc t⟩
end Mine
namespace Mine
open PySem PySem.W PySem.Calls PySem.Spec PyProof.Rows
section
variable {prog : Program} {w : World} {A : Around} {E : Value → Shared → Prop} {R : Result → Shared → Prop} {s : Shared} {env : Env}
/-- the comprehension's loop, its target's tuple let go by the walk -/
theorem compLoop_go {elt target iter : Expr} {ifs : List Expr} {scope : Scope} {pos : Pos} {it acc : Value} {env : Env} (I : Nat → Shared → Prop)
    (turn : ∀ n s, I n s → wpAny (model prog w) A (pyNext it) (fun r s₁ => match r with
      | none => R (.ok .next) s₁
      | some v => wpAny (model prog w) A (letOwnedTupleGo target it v) (fun _ s₁ => wpAny (model prog w) A (assign target env v) (fun _ s₂ =>
          wpAny (model prog w) A (forIn ifs true fun c r => if r = true then do let ok ← isTrue c env (eval c env); pure (ForInStep.yield ok) else pure (ForInStep.yield r)) (fun ok s₃ =>
            if ok = true then wpAny (model prog w) A (eval elt env) (fun x s₄ =>
              wpAny (model prog w) A (call (.builtin "list.append") [acc, x]) (fun _ s₅ => ∃ m, m < n ∧ I m s₅) (notedBy (model prog w) A env fun e s' => R (.error e) s') s₄) (notedBy (model prog w) A env fun e s' => R (.error e) s') s₃
            else ∃ m, m < n ∧ I m s₃) (notedBy (model prog w) A env fun e s' => R (.error e) s') s₂) (notedBy (model prog w) A env fun e s' => R (.error e) s') s₁) (notedBy (model prog w) A env fun e s' => R (.error e) s') s₁) (notedBy (model prog w) A env fun e s' => R (.error e) s') s)
    (n : Nat) (h : I n s) :
    codeAny (model prog w) A (.compLoop (.ListComp elt [⟨target, iter, ifs, 0⟩] scope pos) 0 it acc env) R s := by
  refine codeAny_loop rfl I (fun n s hI => ?_) n h
  show wpAny _ A ((compTurn (.ListComp elt [⟨target, iter, ifs, 0⟩] scope pos) 0 it acc env).onRaise (fun x => do noteFrame x env; theTreesLotGoes x)) _ _ s
  refine wpAny_noted ?_
  rw [compTurn_list]
  refine wpAny_bind (wpAny_standAt (wpAny_bind (wpAny_mono (turn n s hI) (fun r s₁ h₁ => ?_) fun _ _ h' => h')))
  cases r with
  | none => exact wpAny_pure h₁
  | some v =>
    refine wpAny_bind (wpAny_mono h₁ (fun _ s₁ h₁ => ?_) fun _ _ h' => h')
    refine wpAny_bind (wpAny_mono h₁ (fun _ s₂ h₂ => wpAny_bind (wpAny_mono h₂ (fun ok s₃ h₃ => ?_) fun _ _ h' => h')) fun _ _ h' => h')
    cases ok with
    | false => exact wpAny_pure ⟨rfl, h₃⟩
    | true =>
      exact wpAny_bind (wpAny_bind (wpAny_mono h₃ (fun x s₄ h₄ => wpAny_bind (wpAny_mono h₄ (fun _ s₅ h₅ => wpAny_pure (wpAny_pure ⟨rfl, h₅⟩)) fun _ _ h' => h')) fun _ _ h' => h'))
/-- a comprehension turn's end -/
noncomputable def CompEnd (s₁ : Shared) (hb : Heap) (C I D : Addr) (oI oD : Obj) (J : List (Addr × Obj) → Prop) (s₃ : Shared) : Prop :=
  ∃ h' tk m' news₂, s₃ = { s₁ with heap := h', toks := tk } ∧ Fr hb C h' m' ∧ News hb C h' ((I, oI) :: (D, oD) :: news₂) ∧ (∀ p ∈ news₂, p.1 ≠ I ∧ p.1 ≠ D) ∧ J news₂
/-- what a comprehension over a list wants behind its iterable -/
noncomputable def CompIn (prog : Program) (w : World) (A : Around) (env : Env) (scope : Scope) (cl : List (Str × Addr)) (target elt : Expr) (ifs : List Expr) (Q : Value → Shared → Prop) (xv : Value) (s₁ : Shared) : Prop :=
  ∃ l items, xv = .ref l ∧ s₁.heap.IsList l items ∧ items.size ≤ sizeLine ∧ GoOk prog w A target items ∧
    ∃ J : Nat → List Value → List (Addr × Obj) → Prop, J 0 [] [] ∧
      (∀ hb C D I oI i v ys nD news₁ mC h₁ tk₁ E', Keep s₁.heap hb → items[i]? = some v → J i ys news₁ → Fr hb C h₁ mC → News hb C h₁ ((I, oI) :: (D, listOf ys.toArray nD) :: news₁) → (∀ p ∈ news₁, p.1 ≠ I ∧ p.1 ≠ D) → I ≠ D →
        wpAny (model prog w) A (assign target (compEnvC scope cl C env) v) (fun _ s₂ =>
          wpAny (model prog w) A (forIn ifs true fun c r => if r = true then do let ok ← isTrue c (compEnvC scope cl C env) (eval c (compEnvC scope cl C env)); pure (ForInStep.yield ok) else pure (ForInStep.yield r)) (fun ok s₃ =>
            if ok = true then wpAny (model prog w) A (eval elt (compEnvC scope cl C env)) (fun y s₄ => CompEnd s₁ hb C I D oI (listOf ys.toArray nD) (J (i + 1) (ys ++ [y])) s₄) E' s₃
            else CompEnd s₁ hb C I D oI (listOf ys.toArray nD) (J (i + 1) ys) s₃) E' s₂) E' { s₁ with heap := h₁, toks := tk₁ }) ∧
      (∀ ys D nD news h' tk, J items.size ys news → Keep s₁.heap h' → s₁.heap.get? D = none → h'.get? D = some (lstO ys nD) → (∀ p ∈ news, h'.get? p.1 = some p.2 ∧ s₁.heap.get? p.1 = none ∧ p.1 ≠ D) → Q (.ref D) { s₁ with heap := h', toks := tk })
/-- the same with the end left open -/
noncomputable def CompInU (prog : Program) (w : World) (A : Around) (E : Value → Shared → Prop) (env : Env) (scope : Scope) (cl : List (Str × Addr)) (target elt : Expr) (ifs : List Expr) (use : Option (Value → Sem Unit)) (Q : Value → Shared → Prop) (xv : Value) (s₁ : Shared) : Prop :=
  ∃ l items, xv = .ref l ∧ s₁.heap.IsList l items ∧ items.size ≤ sizeLine ∧ GoOk prog w A target items ∧
    ∃ J : Nat → List Value → List (Addr × Obj) → Prop, J 0 [] [] ∧
      (∀ hb C D I oI i v ys nD news₁ mC h₁ tk₁ E', Keep s₁.heap hb → items[i]? = some v → J i ys news₁ → Fr hb C h₁ mC → News hb C h₁ ((I, oI) :: (D, listOf ys.toArray nD) :: news₁) → (∀ p ∈ news₁, p.1 ≠ I ∧ p.1 ≠ D) → I ≠ D →
        wpAny (model prog w) A (assign target (compEnvC scope cl C env) v) (fun _ s₂ =>
          wpAny (model prog w) A (forIn ifs true fun c r => if r = true then do let ok ← isTrue c (compEnvC scope cl C env) (eval c (compEnvC scope cl C env)); pure (ForInStep.yield ok) else pure (ForInStep.yield r)) (fun ok s₃ =>
            if ok = true then wpAny (model prog w) A (eval elt (compEnvC scope cl C env)) (fun y s₄ => CompEnd s₁ hb C I D oI (listOf ys.toArray nD) (J (i + 1) (ys ++ [y])) s₄) E' s₃
            else CompEnd s₁ hb C I D oI (listOf ys.toArray nD) (J (i + 1) ys) s₃) E' s₂) E' { s₁ with heap := h₁, toks := tk₁ }) ∧
      (∀ ys D nD news h' tk C mC, J items.size ys news → Keep s₁.heap h' → s₁.heap.get? D = none → h'.get? D = some (lstO ys nD) → (∀ p ∈ news, h'.get? p.1 = some p.2 ∧ s₁.heap.get? p.1 = none ∧ p.1 ≠ D ∧ p.1 ≠ C) →
        s₁.heap.get? C = none → C ≠ D → h'.Ns C mC → compPost (model prog w) A E use Q (.ref D) C (.ok .next) { s₁ with heap := h', toks := tk })
theorem Comp_core {elt target iter : Expr} {ifs : List Expr} {scope : Scope} {cl : List (Str × Addr)} {pos pos' : Pos} {Q : Value → Shared → Prop} {use : Option (Value → Sem Unit)} (hh : A.handled = none)
    (hclos : closureFor scope env = pure cl) (hcell : ∀ y ∈ scope.names, y.2 ≠ .cell) (hkind : scope.kind = .function)
    (hnames : ∀ y ∈ scope.names, y.2 = .local → scope.names.lookup y.1 = some .local)
    (h : wpAny (model prog w) A (eval iter env) (CompInU prog w A E env scope cl target elt ifs use Q) E s)
    (hs : ∀ x, foldedSetIterable iter env x = pure x := by intro _; rfl) :
    wpAny (model prog w) A (comprehension (.ListComp elt [⟨target, iter, ifs, 0⟩] scope pos) scope env pos' (newList []) false (eval iter env) use) Q E s := by
  refine wpAny_comprehension_free (use := use) rfl hs hclos hkind hnames (wpAny_mono h (fun xv s₁ h₁ => ?_) fun _ _ e => e)
  obtain ⟨l, items, rfl, hl, hsz, hgo, J, hJ, turn, done⟩ := h₁
  refine wpAny_pyIter_list hl ?_
  generalize hH1 : s₁.heap.push { cls := .type "list_iterator", data := .fields #[.ref l, .int 0 0] } = H1
  have hI0 : H1.IsListIter s₁.heap.objs.size l 0 := by subst hH1; exact ⟨_, Heap.get?_push_size _ rfl, rfl, rfl⟩
  have k1 : Keep s₁.heap H1 := by subst hH1; exact fun b o e => Heap.get?_push_of_some _ e
  have z1 : H1.objs.size = s₁.heap.objs.size + 1 := by subst hH1; rw [Heap.size_push]
  refine wpAny_newObj_type (wpAny_newFunctionEnv hcell (by intro y hy; simp at hy) (fun h₁ hns₁ hsb₁ => ?_) hkind)
  dsimp only at hns₁ hsb₁ ⊢
  generalize hH2 : H1.push { cls := .type "list", dict := none, data := .seq ([] : List Value).toArray } = H2 at hns₁ hsb₁ ⊢
  have zC : H2.objs.size = H1.objs.size + 1 := by rw [← hH2, Heap.size_push]
  have k2 : Keep H1 H2 := by subst hH2; exact fun b o e => Heap.get?_push_of_some _ e
  have k3 : ∀ b o, H2.get? b = some o → h₁.get? b = some o := fun b o e => hsb₁.extBut b o (Nat.ne_of_lt (Heap.lt_size e)) (Heap.get?_push_of_some _ e)
  have hD0 : H2.get? H1.objs.size = some (listOf #[] 0) := by subst hH2; exact Heap.get?_push_size _ rfl
  generalize hI : s₁.heap.objs.size = I at hI0 z1 ⊢
  generalize hD : H1.objs.size = D at z1 zC hD0 ⊢
  have hsb₂ := hsb₁
  generalize hC : H2.objs.size = C at zC hns₁ hsb₁ hsb₂ ⊢
  have hID : I ≠ D := by omega
  have hIC : I ≠ C := by omega
  have hDC : D ≠ C := by omega
  have fresh : ∀ a, I ≤ a → s₁.heap.get? a = none := fun a ha => by
    cases e : s₁.heap.get? a with
    | none => rfl
    | some o' =>
      have := Heap.lt_size e
      rw [hI] at this
      exact absurd this (Nat.not_lt_of_le ha)
  obtain ⟨hb, hhb⟩ : ∃ hb, hb = hideAll H2 [I, D] := ⟨_, rfl⟩
  have hbI : hb.get? I = none := by subst hhb; exact hideAll_none _ (.head _)
  have hbD : hb.get? D = none := by subst hhb; exact hideAll_none _ (.tail _ (.head _))
  have hbz : hb.objs.size = C := by subst hhb; rw [hideAll_size, hC]
  have kb : Keep s₁.heap hb := fun b o e => by
    subst hhb
    have hlt := Heap.lt_size e
    rw [hI] at hlt
    refine hideAll_get _ (k2 _ _ (k1 _ _ e)) fun hm => ?_
    simp only [List.mem_cons, List.not_mem_nil, or_false] at hm
    rcases hm with e' | e'
    · rw [e'] at hlt
      exact absurd hlt (Nat.lt_irrefl _)
    · rw [e', z1] at hlt
      exact absurd hlt (Nat.not_lt_of_le (Nat.le_succ _))
  have F0 : Fr hb C h₁ (fun x => List.lookup x ([] : List (Str × Value)).reverse) := ⟨hns₁, fun b o e => k3 b o (by subst hhb; exact of_hideAll _ e), Nat.le_of_eq hbz⟩
  have N0 : News hb C h₁ [(D, listOf ([] : List Value).toArray 0)] := fun p hp => by
    rw [List.mem_singleton] at hp
    subst hp
    exact ⟨k3 _ _ hD0, hDC, hbD⟩
  have hI1 : h₁.IsListIter I l 0 := by
    obtain ⟨o, ho, r⟩ := hI0
    exact ⟨o, k3 _ _ (k2 _ _ ho), r⟩
  have post : codeAny (model prog w) A (.compLoop (.ListComp elt [⟨target, iter, ifs, 0⟩] scope pos) 0 (.ref I) (.ref D) (compEnvC scope cl C env)) (compPost (model prog w) A E use Q (.ref D) C) { s₁ with heap := h₁, toks := s₁.toks + ([] : List (Str × Value)).length } := by
    refine compLoop_go (fun k s' => ∃ H tk mC ys nD news i, s' = { s₁ with heap := H, toks := tk } ∧ H.IsListIter I l i ∧ Fr hb C H mC ∧ News hb C H ((D, listOf ys.toArray nD) :: news) ∧ (∀ p ∈ news, p.1 ≠ I ∧ p.1 ≠ D) ∧ J i ys news ∧ ys.length ≤ i ∧ i ≤ items.size ∧ k = items.size + 1 - i) ?_ (items.size + 1)
      ⟨h₁, _, _, [], 0, [], 0, rfl, hI1, F0, N0, (fun _ h => by cases h), hJ, Nat.le_refl _, Nat.zero_le _, rfl⟩
    rintro k s' ⟨H, tk, mC, ys, nD, news, i, rfl, hI', F₁, N₁, hne, hJ₁, hyl, hi, rfl⟩
    have hl' : H.IsList l items := by
      obtain ⟨o, ho, r⟩ := hl
      exact ⟨o, F₁.keep _ _ (kb _ _ ho), r⟩
    by_cases hlt : i < items.size
    · have hx : items[i]? = some items[i] := by simp [hlt]
      refine wpAny_pyNext_list_item hI' hl' hx fun h₂ hI₂ hs₂ => ?_
      refine hgo I l (i + 1) _ _ _ _ (by simp) hI₂ ?_
      have F₂ : Fr hb C h₂ mC := ⟨F₁.ns.sameBut hs₂ (Ne.symm hIC), fun b o e => (hs₂.2 b (fun q => by rw [q, hbI] at e; cases e)).trans (F₁.keep b o e), F₁.above⟩
      have hnI : ∀ p ∈ (D, listOf ys.toArray nD) :: news, p.1 ≠ I := fun p hp => by
        rcases List.mem_cons.mp hp with rfl | hp
        · exact fun e => hID e.symm
        · exact (hne p hp).1
      have N₂ : News hb C h₂ ((D, listOf ys.toArray nD) :: news) := fun p hp => ⟨(hs₂.2 p.1 (hnI p hp)).trans (N₁ p hp).1, (N₁ p hp).2⟩
      obtain ⟨oI, hoI, hcI, hdI⟩ := id hI₂
      have N₃ : News hb C h₂ ((I, oI) :: (D, listOf ys.toArray nD) :: news) := by
        intro p hp
        rcases List.mem_cons.mp hp with rfl | hp
        · exact ⟨hoI, hIC, hbI⟩
        · exact N₂ p hp
      have fin : ∀ ys' s₃, ys'.length ≤ i + 1 → CompEnd s₁ hb C I D oI (listOf ys'.toArray nD) (J (i + 1) ys') s₃ → ∃ m, m < items.size + 1 - i ∧ ∃ H tk mC ys nD news i, s₃ = { s₁ with heap := H, toks := tk } ∧ H.IsListIter I l i ∧ Fr hb C H mC ∧ News hb C H ((D, listOf ys.toArray nD) :: news) ∧ (∀ p ∈ news, p.1 ≠ I ∧ p.1 ≠ D) ∧ J i ys news ∧ ys.length ≤ i ∧ i ≤ items.size ∧ m = items.size + 1 - i := by
        rintro ys' s₃ hy ⟨h3, tk3, m3, news3, rfl, F3, N3, hn3, J3⟩
        exact ⟨items.size + 1 - (i + 1), by omega, h3, tk3, m3, ys', nD, news3, i + 1, rfl, ⟨oI, (N3 _ (.head _)).1, hcI, hdI⟩, F3, fun p hp => N3 p (.tail _ hp), hn3, J3, hy, hlt, rfl⟩
      refine wpAny_mono (turn hb C D I oI i _ ys nD news mC h₂ _ _ kb hx hJ₁ F₂ N₃ hne hID) (fun _ s₂ h₂ => ?_) fun _ _ e => e
      refine wpAny_mono h₂ (fun ok s₃ h₃ => ?_) fun _ _ e => e
      cases ok with
      | false =>
        simp only [Bool.false_eq_true, if_false] at h₃ ⊢
        exact fin ys s₃ (by omega) h₃
      | true =>
        simp only [if_true] at h₃ ⊢
        refine wpAny_mono h₃ (fun y s₄ h₄ => ?_) fun _ _ e => e
        obtain ⟨h4, tk4, m4, news4, rfl, F4, N4, hn4, J4⟩ := h₄
        have hD4 : h4.PlainList D ys.toArray := ⟨nD, (N4 _ (.tail _ (.head _))).1⟩
        refine wpAny_list_append_plain (hsz := by rw [List.size_toArray]; omega) hD4 fun h5 hp5 hs5 => ?_
        obtain ⟨n5, hp5⟩ := hp5
        refine ⟨items.size + 1 - (i + 1), by omega, h5, tk4, m4, ys ++ [y], n5, news4, i + 1, rfl, ⟨oI, (hs5.2 I hID).trans (N4 _ (.head _)).1, hcI, hdI⟩, ⟨F4.ns.sameBut hs5 (Ne.symm hDC), fun b o e => (hs5.2 b (fun q => by rw [q, hbD] at e; cases e)).trans (F4.keep b o e), F4.above⟩, ?_, hn4, J4, by rw [List.length_append, List.length_singleton]; omega, hlt, rfl⟩
        intro p hp
        rcases List.mem_cons.mp hp with rfl | hp
        · exact ⟨by rw [hp5]; simp [W.listOf], hDC, hbD⟩
        · have := N4 p (.tail _ (.tail _ hp))
          exact ⟨(hs5.2 p.1 (hn4 p hp).2).trans this.1, this.2⟩
    · have hin : i = items.size := by omega
      subst hin
      refine wpAny_pyNext_list_end hh hI' hl' (by simp) fun h₂ hs₂ => ?_
      have up : ∀ b o, b ≠ I → H.get? b = some o → h₂.get? b = some o := fun b o hbI e => hs₂ b o hbI e
      have frb : ∀ b, hb.get? b = none → s₁.heap.get? b = none := fun b e => by
        cases q : s₁.heap.get? b with
        | none => rfl
        | some o => rw [kb _ _ q] at e; cases e
      refine done ys D nD news h₂ tk C mC hJ₁ (fun b o e => ?_) (fresh _ (by omega)) ?_ (fun p hp => ?_) (fresh _ (by omega)) (Ne.symm hDC) (F₁.ns.at' fun o e => hs₂ _ o (Ne.symm hIC) e)
      · have hb1 := kb _ _ e
        exact up b o (fun q => by rw [q, hbI] at hb1; cases hb1) (F₁.keep _ _ hb1)
      · exact up D _ (fun e => hID e.symm) (N₁ _ (.head _)).1
      · have := N₁ p (.tail _ hp)
        exact ⟨up _ _ (hne p hp).1 this.1, frb _ this.2.2, (hne p hp).2, this.2.1⟩
  exact codeAny_compStart_list post (wpAny_pyIter_listiter hI1 post)
theorem Comp_list {elt target iter : Expr} {ifs : List Expr} {scope : Scope} {cl : List (Str × Addr)} {pos : Pos} {Q : Value → Shared → Prop} (hh : A.handled = none)
    (hclos : closureFor scope env = pure cl) (hcell : ∀ y ∈ scope.names, y.2 ≠ .cell) (hkind : scope.kind = .function)
    (hnames : ∀ y ∈ scope.names, y.2 = .local → scope.names.lookup y.1 = some .local)
    (h : wpAny (model prog w) A (eval iter env) (CompIn prog w A env scope cl target elt ifs Q) E s)
    (hs : ∀ x, foldedSetIterable iter env x = pure x := by intro _; rfl) :
    wpAny (model prog w) A (eval (.ListComp elt [⟨target, iter, ifs, 0⟩] scope pos) env) Q E s := by
  rw [eval_ListComp]
  show wpAny _ A (comprehension (.ListComp elt [⟨target, iter, ifs, 0⟩] scope pos) scope env _ (newList []) false (eval iter env) none) _ _ s
  refine Comp_core hh hclos hcell hkind hnames (wpAny_mono h (fun xv s₁ h₁ => ?_) fun _ _ e => e) hs
  obtain ⟨l, items, rfl, hl, hsz, hgo, J, hJ, turn, done⟩ := h₁
  refine ⟨l, items, rfl, hl, hsz, hgo, J, hJ, turn, fun ys D nD news h' tk C mC hJ₁ kk hD hD' hnews hC hCD hns => ⟨mC, hns, fun h₃ hs₃ => ?_⟩⟩
  exact done ys D nD news h₃ tk hJ₁ (fun b o e => (hs₃.2 b (fun q => by rw [q, hC] at e; cases e)).trans (kk _ _ e)) hD ((hs₃.2 D (Ne.symm hCD)).trans hD') fun p hp => ⟨(hs₃.2 _ (hnews p hp).2.2.2).trans (hnews p hp).1, (hnews p hp).2.1, (hnews p hp).2.2.1⟩
/-- behind an assigned comprehension: a local name takes the list -/
theorem local_use {y : Str} {py : Pos} {Q : Value → Shared → Prop} {h₀ : Heap} {m mC : Str → Option Value} {news : List (Addr × Obj)} {v : Value} {C : Addr} (F : Fr h₀ env.locals s.heap m) (N : News h₀ env.locals s.heap news)
    (hy : env.kindOf y = some .local) (hp : (env.scope.kind == .class || (env.scope.kind == .module && env.locals != env.globals)) = false)
    (hCL : C ≠ env.locals) (hC₀ : h₀.get? C = none) (hCn : ∀ p ∈ news, p.1 ≠ C) (hns : s.heap.Ns C mC)
    (h : ∀ h' tk, Fr h₀ env.locals h' (fun z => if z = y then some v else m z) → News h₀ env.locals h' news → Q .none { s with heap := h', toks := tk }) :
    wpAny (model prog w) A (assign (.Name y py) env v) (fun _ s'' => ∃ m, s''.heap.Ns C m ∧ ∀ h', Heap.SameBut C s''.heap h' → Q Value.none { s'' with heap := h' }) E s := by
  have hL₀ : h₀.get? env.locals = none := Heap.get?_none_of_le F.above
  refine wpAny_assign_Name (wpAny_storeName_local hy F.ns (fun h₂ hn₂ hs₂ => ?_) hp)
  have F₂ : Fr h₀ env.locals h₂ (fun z => if z = y then some v else m z) := ⟨hn₂, fun b o e => hs₂.extBut b o (fun q => by rw [q, hL₀] at e; cases e) (F.keep b o e), F.above⟩
  refine ⟨mC, hns.sameBut hs₂ hCL, fun h'' hs'' => h h'' _ (F₂.change hs'' hCL hC₀) fun p hp => ⟨?_, (N p hp).2⟩⟩
  exact hs''.extBut _ _ (hCn p hp) (hs₂.extBut _ _ (N p hp).2.1 (N p hp).1)
/-- an assigned comprehension over a list -/
theorem Comp_assign {elt target iter : Expr} {ifs : List Expr} {y : Str} {py : Pos} {scope : Scope} {cl : List (Str × Addr)} {pos spos : Pos} {Q : Flow → Shared → Prop} (hh : A.handled = none)
    (hsw : swapsWith (.ListComp elt [⟨target, iter, ifs, 0⟩] scope pos) (some (.Name y py)) spos.line env = pure true)
    (hclos : closureFor scope env = pure cl) (hcell : ∀ y ∈ scope.names, y.2 ≠ .cell) (hkind : scope.kind = .function)
    (hnames : ∀ y ∈ scope.names, y.2 = .local → scope.names.lookup y.1 = some .local)
    (h : wpAny (model prog w) A (eval iter env) (CompInU prog w A E env scope cl target elt ifs (some (assign (.Name y py) env)) (fun _ s' => Q .next s')) E s)
    (hs : ∀ x, foldedSetIterable iter env x = pure x := by intro _; rfl) :
    wpAny (model prog w) A (exec (.Assign [.Name y py] (.ListComp elt [⟨target, iter, ifs, 0⟩] scope pos) spos) env) Q E s := by
  rw [exec_Assign_Name_used _ _ _ _ hsw]
  refine wpAny_bind (wpAny_standAt (wpAny_bind ?_))
  show wpAny _ A (do let _ ← comprehension (.ListComp elt [⟨target, iter, ifs, 0⟩] scope pos) scope env _ (newList []) false (eval iter env) (some (assign (.Name y py) env))) _ _ s
  exact wpAny_bind (wpAny_mono (Comp_core hh hclos hcell hkind hnames h hs) (fun _ s' hq => wpAny_pure (wpAny_pure hq)) fun _ _ e => e)
theorem name_assign {a : Str} {pa : Pos} {v : Value} {h₀ : Heap} {m : Str → Option Value} {news : List (Addr × Obj)} {Q : Unit → Shared → Prop} (F : Fr h₀ env.locals s.heap m) (N : News h₀ env.locals s.heap news)
    (ha : env.kindOf a = some .local) (hp : (env.scope.kind == .class || (env.scope.kind == .module && env.locals != env.globals)) = false)
    (h : ∀ h' : Heap, Fr h₀ env.locals h' (fun z => if z = a then some v else m z) → News h₀ env.locals h' news → Q () { s with heap := h', toks := s.toks + 1 }) :
    wpAny (model prog w) A (assign (.Name a pa) env v) Q E s :=
  wpAny_assign_Name (wpAny_storeName_local ha F.ns (fun h₂ hn₂ hs₂ => h h₂ ⟨hn₂, fun b o e => (hs₂.2 b (fun q => by
    subst q
    exact absurd (Nat.lt_of_lt_of_le (Heap.lt_size e) F.above) (Nat.lt_irrefl _))).trans (F.keep b o e), F.above⟩ fun p hp => ⟨(hs₂.2 p.1 (N p hp).2.1).trans (N p hp).1, (N p hp).2⟩) hp)
end
end Mine
namespace Mine
open PySem PySem.W PySem.Calls PySem.Spec PyProof.Rows
noncomputable abbrev markF (k : Int) : Str := Txt.item (Str.ofString "|!") (Int.fmod k 2)
noncomputable def Fine' (x : Str) : Bool := x.cps.toList.all fun c => decide (32 ≤ c ∧ c ≤ 126)
theorem fine_of {x : Str} (h : Fine' x = true) : Fine x := fun c hc => of_decide_eq_true (List.all_eq_true.mp h c hc)
end Mine
namespace Mine
open PySem PySem.W PySem.Calls PySem.Spec PyProof.Rows
/-- the place that a wish gets: the first free one from p on round the ring -/
noncomputable def probeF (size : Int) (taken : List Int) : Nat → Int → Int
  | 0, p => p
  | f + 1, p => if p ∈ taken then probeF size taken f (Int.fmod (p + 1) size) else p
noncomputable def seatsF (size : Int) : List Int → List Int → List Int
  | taken, [] => taken
  | taken, w :: ws => seatsF size (taken ++ [probeF size taken 6 w]) ws
/-- where the first i clients stand -/
noncomputable def standsF (turn size : Int) (ws : List Int) (i : Nat) : List Int := seatsF size [] ((ws.take i).map fun a => Int.fmod (a + turn) size)
end Mine
namespace Mine
open PySem PySem.W PySem.Calls PySem.Spec PyProof.Rows
theorem fmod_lo {a b : Int} (h : 0 < b) : 0 ≤ a.fmod b := by rw [Int.fmod_eq_emod_of_nonneg _ (Int.le_of_lt h)]; exact Int.emod_nonneg _ (by omega)
theorem fmod_hi {a b : Int} (h : 0 < b) : a.fmod b < b := by rw [Int.fmod_eq_emod_of_nonneg _ (Int.le_of_lt h)]; exact Int.emod_lt_of_pos _ h
theorem nodup_len : ∀ (xs ys : List Int), xs.Nodup → (∀ x ∈ xs, x ∈ ys) → xs.length ≤ ys.length
  | [], _, _, _ => Nat.zero_le _
  | x :: xs, ys, hn, h => by
    have hx : x ∈ ys := h x (.head _)
    have := nodup_len xs (ys.erase x) (List.nodup_cons.mp hn).2 fun y hy => by
      have hne : y ≠ x := by rintro rfl; exact (List.nodup_cons.mp hn).1 hy
      exact (List.mem_erase_of_ne hne).mpr (h y (.tail _ hy))
    rw [List.length_erase_of_mem hx] at this
    have : 0 < ys.length := List.length_pos_of_mem hx
    simp only [List.length_cons]
    omega
section
variable {turn size : Int} {ws : List Int} {i : Nat}
end
section
variable {h₀ h h' : Heap} {L x d l a C : Addr} {P : Params} {tk0 t2 t3 : Tok} {nL n' : Nat} {tups : List (Addr × Obj)} {es : List (Str × Str)} {g : Addr × Obj} {m : Str → Option Value} {nm v : Str}
theorem news_one {news : List (Addr × Obj)} {o : Obj} (N : News h₀ L h news) (hm : (l, o) ∈ news) : News h₀ L h [(l, o)] := fun p hp => by
  rw [List.mem_singleton] at hp
  subst hp
  exact N _ hm
theorem TupsOf.cls : ∀ {ps : List (Addr × Obj)} {es : List (Str × Str)}, TupsOf ps es → ∀ p ∈ ps, p.2.cls = .type "tuple"
  | [], [], _, _, hp => by cases hp
  | q :: ps, e :: es, ⟨⟨ta, tb, hq⟩, t⟩, p, hp => by
    rcases List.mem_cons.mp hp with rfl | hp
    · rw [hq]
    · exact TupsOf.cls t p hp
theorem app_facts (F : Fr h₀ L h m) (N : News h₀ L h (g :: tabL C P x d l tk0 nL tups)) (hT : TupsOf tups es) (hg : ∀ p ∈ tabL C P x d l tk0 nL tups, p.1 ≠ g.1) (k : KeepBut l h h') (ha : h.get? a = none)
    (ha' : h'.get? a = some (tupO [.str nm t2, .str v t3])) (hl : h'.get? l = some (lstO (tups.map (fun p => Value.ref p.1) ++ [.ref a]) n')) :
    Fr h₀ L h' m ∧ News h₀ L h' (g :: tabL C P x d l tk0 n' (tups ++ [(a, tupO [.str nm t2, .str v t3])])) ∧ TupsOf (tups ++ [(a, tupO [.str nm t2, .str v t3])]) (es ++ [(nm, v)]) ∧ ∀ p ∈ tabL C P x d l tk0 n' (tups ++ [(a, tupO [.str nm t2, .str v t3])]), p.1 ≠ g.1 := by
  have Nl := N _ (.tail _ (.tail _ (.tail _ (.head _))))
  have hne : ∀ b o, h.get? b = some o → (o.cls == Value.type "list") = false → b ≠ l := fun b o e hc => addr_ne e Nl.1 hc
  have hb0 : ∀ b o, h₀.get? b = some o → b ≠ l := fun b o e => by
    rintro rfl
    rw [Nl.2.2] at e
    cases e
  have hgl : g.1 ≠ l := fun e => hg _ (.tail _ (.tail _ (.head _))) e.symm
  have hav : a ≠ L ∧ h₀.get? a = none := by
    refine ⟨fun e => ?_, ?_⟩
    · obtain ⟨oL, _, _, hL, _⟩ := F.ns
      subst e
      rw [hL] at ha; cases ha
    · cases q : h₀.get? a with
      | none => rfl
      | some o' => rw [F.keep _ _ q] at ha; cases ha
  refine ⟨⟨F.ns.at' fun o e => k _ o (fun q => Nl.2.1 q.symm) e, fun b o e => k b o (hb0 b o e) (F.keep b o e), F.above⟩, ?_, TupsOf.snoc hT, ?_⟩
  · intro p hp
    rcases List.mem_cons.mp hp with rfl | hp
    · exact ⟨k _ _ hgl (N _ (.head _)).1, (N _ (.head _)).2⟩
    rcases List.mem_cons.mp hp with rfl | hp
    · have := N _ (.tail _ (.head _))
      exact ⟨k _ _ (hne _ _ this.1 rfl) this.1, this.2⟩
    rcases List.mem_cons.mp hp with rfl | hp
    · have := N _ (.tail _ (.tail _ (.head _)))
      exact ⟨k _ _ (hne _ _ this.1 rfl) this.1, this.2⟩
    rcases List.mem_cons.mp hp with rfl | hp
    · refine ⟨?_, Nl.2⟩
      rw [hl]
      simp
    rcases List.mem_append.mp hp with hp | hp
    · have := N p (.tail _ (.tail _ (.tail _ (.tail _ hp))))
      refine ⟨k _ _ (hne _ _ this.1 ?_) this.1, this.2⟩
      rw [TupsOf.cls hT p hp]
      rfl
    · rw [List.mem_singleton] at hp
      subst hp
      exact ⟨ha', hav.1, hav.2⟩
  · intro p hp
    rcases List.mem_cons.mp hp with rfl | hp
    · exact hg _ (.head _)
    rcases List.mem_cons.mp hp with rfl | hp
    · exact hg _ (.tail _ (.head _))
    rcases List.mem_cons.mp hp with rfl | hp
    · exact fun e => hgl e.symm
    rcases List.mem_append.mp hp with hp | hp
    · exact hg p (.tail _ (.tail _ (.tail _ hp)))
    · rw [List.mem_singleton] at hp
      subst hp
      rintro rfl
      have := N _ (.head _)
      rw [this.1] at ha
      cases ha
end
end Mine
namespace Mine
open PySem PySem.W PySem.Calls PySem.Spec PyProof.Rows
/-- law 2: a port's header, the name asked for, its reply -/
noncomputable abbrev pnF (p : Int) : Str := Str.ofString "p" ++ Str.ofString (toString p)
noncomputable abbrev pqF (p : Int) : Str := Str.ofString "P" ++ Str.ofString (toString p)
noncomputable abbrev rpF (p : Int) : Str := Str.ofString "229 at (" ++ Txt.mul (markF p) 3 ++ Str.ofString (toString p) ++ markF p ++ Str.ofString ")"
noncomputable def dgF (p : Int) : Int := if p < 10 then 1 else 2
noncomputable def pnOk (p : Int) : Bool := (Txt.lower (pnF p) == pnF p) && (Txt.lower (pqF p) == pnF p) && Fine' (pnF p) && Fine' (rpF p) && decide ((pnF p).length ≤ 3) && decide ((pqF p).length ≤ 3) && decide ((rpF p).length ≤ 16) && decide ((markF p).length = 1)
theorem pn_all : ∀ p : Fin 12, pnOk (p.1 : Int) = true := by decide +kernel
theorem pn_facts {p : Int} (p0 : 0 ≤ p) (p1 : p < 12) : Txt.lower (pnF p) = pnF p ∧ Txt.lower (pqF p) = pnF p ∧ Fine (pnF p) ∧ Fine (rpF p) ∧ (pnF p).length ≤ 3 ∧ (pqF p).length ≤ 3 ∧ (rpF p).length ≤ 16 ∧ (markF p).length = 1 := by
  obtain ⟨n, rfl⟩ := Int.eq_ofNat_of_zero_le p0
  have := pn_all ⟨n, by omega⟩
  unfold pnOk at this
  simp only [Bool.and_eq_true, beq_iff_eq, decide_eq_true_eq] at this
  obtain ⟨⟨⟨⟨⟨⟨⟨a, b⟩, c⟩, d⟩, e⟩, f⟩, g⟩, i⟩ := this
  exact ⟨a, b, fine_of c, fine_of d, e, f, g, i⟩
theorem pn_inj_all : ∀ p q : Fin 12, pnF (p.1 : Int) = pnF (q.1 : Int) → p = q := by decide +kernel
theorem pn_inj {p q : Int} (p0 : 0 ≤ p) (p1 : p < 12) (q0 : 0 ≤ q) (q1 : q < 12) (h : pnF p = pnF q) : p = q := by
  obtain ⟨n, rfl⟩ := Int.eq_ofNat_of_zero_le p0
  obtain ⟨m, rfl⟩ := Int.eq_ofNat_of_zero_le q0
  have := pn_inj_all ⟨n, by omega⟩ ⟨m, by omega⟩ h
  have := congrArg Fin.val this
  simp only at this
  omega
noncomputable def rpOk (p : Int) : Bool :=
  let resp := rpF p
  let r := 12 + dgF p
  decide ((resp.length : Int) = r + 1) && (Txt.slice resp none (some 3) == Str.ofString "229") && decide (Txt.find resp (Str.ofString "(") = 7) && decide (Txt.find3 resp (Str.ofString ")") (7 + 1) = r) &&
    (Txt.item resp (7 + 1) == Txt.item resp (r - 1)) && decide ((Txt.slice resp (some (7 + 1)) (some r)).length ≤ 1000) && (Txt.split (Txt.slice resp (some (7 + 1)) (some r)) (Txt.item resp (7 + 1)) == [Str.ofString "", Str.ofString "", Str.ofString "", Str.ofString (toString p), Str.ofString ""]) &&
    (!(Txt.item resp (7 + 1)).length == 0) && decide (PySem.intText? (Str.ofString (toString p)) = some p) && decide ((Str.ofString (toString p)).length ≤ 640)
theorem rp_all : ∀ p : Fin 12, rpOk (p.1 : Int) = true := by decide +kernel
theorem dg_lo (p : Int) : 1 ≤ dgF p ∧ dgF p ≤ 2 := by unfold dgF; split <;> omega
theorem rp_facts {p : Int} (p0 : 0 ≤ p) (p1 : p < 12) : IsReply (rpF p) p (12 + dgF p) (Str.ofString "") (Str.ofString "") (Str.ofString "") (Str.ofString (toString p)) (Str.ofString "") := by
  have hd := dg_lo p
  obtain ⟨n, rfl⟩ := Int.eq_ofNat_of_zero_le p0
  have := rp_all ⟨n, by omega⟩
  unfold rpOk at this
  simp only [Bool.and_eq_true, beq_iff_eq, decide_eq_true_eq] at this
  obtain ⟨⟨⟨⟨⟨⟨⟨⟨⟨a1, a2⟩, a3⟩, a4⟩, a5⟩, a6⟩, a7⟩, a8⟩, a9⟩, a10⟩ := this
  exact ⟨a1, by omega, by omega, a2, a3, a4, a5, a6, a7, by simpa using a8, a9, a10⟩
/-- a table's items -/
noncomputable def entT (ps : List Int) : List (Str × Str) := ps.map fun p => (pnF p, rpF p)
theorem ent_snoc (ps : List Int) (p : Int) : entT (ps ++ [p]) = entT ps ++ [(pnF p, rpF p)] := by
  unfold entT
  rw [List.map_append]
  rfl
theorem ent_le {ps : List Int} (h : ∀ a ∈ ps, 0 ≤ a ∧ a < 12) : ∀ e ∈ entT ps, e.1.length ≤ 1000 := fun e he => by
  obtain ⟨a, ha, rfl⟩ := List.mem_map.mp he
  have := (pn_facts (h a ha).1 (h a ha).2).2.2.2.2.1
  show (pnF a).length ≤ 1000
  omega
theorem ent_at {ps : List Int} {i : Nat} {e : Str × Str} (h : (entT ps)[i]? = some e) : ∃ p, ps[i]? = some p ∧ e = (pnF p, rpF p) := by
  unfold entT at h
  rw [List.getElem?_map] at h
  cases q : ps[i]? with
  | none => rw [q] at h; cases h
  | some p => rw [q] at h; simp only [Option.map_some, Option.some.injEq] at h; exact ⟨p, rfl, h.symm⟩
/-- get finds a port's header just if it is there -/
theorem get_ports {ps : List Int} (h : ∀ a ∈ ps, 0 ≤ a ∧ a < 12) {q : Int} (q0 : 0 ≤ q) (q1 : q < 12) {r : Value} (hr : GetRes (entT ps) (pnF q) r) : (q ∈ ps ∧ ∃ t, r = .str (rpF q) t) ∨ (q ∉ ps ∧ r = .none) := by
  rcases getRes_cases hr with ⟨e, t, hf, rfl⟩ | ⟨hf, rfl⟩
  · have he := List.mem_of_find?_eq_some hf
    have hl := List.find?_some hf
    obtain ⟨a, ha, rfl⟩ := List.mem_map.mp he
    simp only [beq_iff_eq] at hl
    rw [(pn_facts (h a ha).1 (h a ha).2).1] at hl
    have := pn_inj (h a ha).1 (h a ha).2 q0 q1 hl
    subst this
    exact .inl ⟨ha, t, rfl⟩
  · refine .inr ⟨fun hm => ?_, rfl⟩
    rw [List.find?_eq_none] at hf
    have := hf (pnF q, rpF q) (List.mem_map.mpr ⟨q, hm, rfl⟩)
    simp only [beq_iff_eq] at this
    exact this (pn_facts q0 q1).1
/-- ports that can go down by the step -/
noncomputable def ableF (ps : List Int) (step : Int) : List Int := ps.filter fun p => decide (step ≤ p) && !decide (p - step ∈ ps)
/-- one move -/
noncomputable def moveF (ps : List Int) (step choice : Int) : List Int × Int :=
  if ableF ps step = [] then (ps, 0) else
    let q := (ableF ps step).getD (Int.fmod choice (ableF ps step).length).toNat 0
    (ps.filter (fun p => decide (p ≠ q)) ++ [q - step], 1)
theorem ent_filter {ps : List Int} (h : ∀ a ∈ ps, 0 ≤ a ∧ a < 12) {q : Int} (q0 : 0 ≤ q) (q1 : q < 12) : (entT ps).filter (fun e => Txt.lower e.1 != pnF q) = entT (ps.filter fun p => decide (p ≠ q)) := by
  unfold entT
  rw [List.filter_map]
  congr 1
  refine List.filter_congr fun a ha => ?_
  obtain ⟨a0, a1⟩ := h a ha
  simp only [Function.comp]
  rw [(pn_facts a0 a1).1]
  by_cases e : a = q
  · subst e; simp
  · have : pnF a ≠ pnF q := fun h => e (pn_inj a0 a1 q0 q1 h)
    simp [e, this]
end Mine
namespace Mine
open PySem PySem.W PySem.Calls PySem.Spec PyProof.Rows
noncomputable abbrev emptyD : Obj := { cls := .type "dict", data := .dict #[] }
theorem join_one {x v : Str} : Txt.join x [v] = v := rfl
theorem empty_dict {prog : Program} {w : World} (h : Heap) : emptyD.IsDictOf (strKind prog w) [] := by
  obtain ⟨o, ho, hd⟩ := Heap.dictOf_iff.mp (Heap.DictOf.new (knd := strKind prog w) h)
  rw [Heap.get?_push_size _ rfl] at ho
  have e := Option.some.inj ho
  subst e
  exact hd
section
variable {prog : Program} {w : World} {A A₀ : Around} {s : Shared} {K : Frag} {L : Addr} {h₀ base : Heap} {m mg mb : Str → Option Value} {p : Program} {loose : List Str} {mean : ExcName → Option Value}
  {env : Env} {outer : List Env} {R : Result → Shared → Prop} {name qual : Str} {params : Arguments} {body : List Stmt} {scope : Scope} {dV kV doc pm cdv ct oc : Value} {an od : Option Addr} {osl : Array (Option Value)} {f : Addr} {args : Args} {news : List (Addr × Obj)}
/-- as base_news, with a dict of no names more -/
theorem base_kw {binds : Addr → List (Str × Value)} (B : Below A₀ base outer h₀) (F : Fr h₀ L s.heap m) (X₀ : K.In h₀) (N : News h₀ L s.heap news) (T : Top p loose mean mg mb h₀) (hA : A.frames = some (env :: outer)) (hf : env.frame = some L) (hke : env.scope.kind = .function)
    (ho : K.lookup f = some ⟨oc, od, .func (fnOf name qual params body scope dV kV doc pm an cdv ct), osl⟩) (hcd : codeIn K cdv qual = true) (hroom : A.depth < recursionLimit)
    (hbind : bindArgs (fnOf name qual params body scope dV kV doc pm an cdv ct) args = (alloc emptyD >>= fun d => pure (binds d))) (hloc : ∀ d, ∀ y ∈ binds d, scope.names.lookup y.1 = some .local)
    (h : ∀ g D L' h₁, (∀ b o, s.heap.get? b = some o → b ∉ news.map (·.1) → g.get? b = some o) → (∀ p ∈ news, p.1 < D) → D < L' → s.heap.get? D = none → (D == sysModules) = false → Fr g L' h₁ (mapOf (binds D).reverse) → News g L' h₁ ((D, emptyD) :: news) → Below A base (env :: outer) g → K.In g → Top p loose mean mg mb g →
      wpAny (model prog w) (A.deeper (envOf qual scope L' f cdv)) (execs body (envOf qual scope L' f cdv))
        (fun fl s' => R (.ok (.ret (match fl with | .ret v => v | _ => .none))) s')
        (fun e s' => wpAny (model prog w) (A.deeper (envOf qual scope L' f cdv)) (leaving (envOf qual scope L' f cdv) e) (fun _ s'' => R (.error e) s'') (fun e' s'' => R (.error e') s'') s')
        { s with heap := h₁, toks := s.toks + (binds D).length })
    (hco : scope.isCoroutine = false) (hgen : scope.isGenerator = false) (hk : scope.kind = .function)
    (hcell : ∀ x ∈ scope.names, x.2 ≠ .cell) : codeAny (model prog w) A (.call (.ref f) args) R s := by
  obtain ⟨_, BG, st, _⟩ := groundX (R := R) B F N hA hf hke
  have XG := Frag.In.keeps X₀ st
  have TG := T.keeps st
  refine codeAny_call_function hroom ((X₀.keeps F.keep) _ _ ho) rfl hco hgen rfl (codeRec_of (X₀.keeps F.keep) hcd) ?_
  rw [hbind]
  refine wpAny_bind (wpAny_alloc (wpAny_pure ?_))
  refine wpAny_newFunctionEnv hcell (hloc _) (fun h₁ hns₀ hsb₀ => ?_) hk
  have hk₁ : ∀ b o, s.heap.get? b = some o → h₁.get? b = some o := fun b o e => by
    have e' := Heap.get?_push_of_some emptyD e
    exact hsb₀.extBut b o (Nat.ne_of_lt (Heap.lt_size e')) (Heap.get?_push_of_some _ e')
  have hDs : (s.heap.push emptyD).get? s.heap.objs.size = some emptyD := Heap.get?_push_size _ rfl
  have hD₁ : h₁.get? s.heap.objs.size = some emptyD := hsb₀.extBut _ _ (Nat.ne_of_lt (Heap.lt_size hDs)) (Heap.get?_push_of_some _ hDs)
  have hDn : s.heap.get? s.heap.objs.size = none := by
    cases q : s.heap.get? s.heap.objs.size with
    | none => rfl
    | some o => exact absurd (Heap.lt_size q) (Nat.lt_irrefl _)
  have hsz : (s.heap.push emptyD).objs.size = s.heap.objs.size + 1 := Heap.size_push ..
  refine ⟨((T.nolimit.keeps F.keep).keeps fun b o e => Heap.get?_push_of_some emptyD e).fresh _ hsb₀, codeAny_func ?_⟩
  rw [show (fun x => List.lookup x (binds s.heap.objs.size).reverse) = mapOf (binds s.heap.objs.size).reverse from funext fun y => lookup_mapOf y _] at hns₀
  refine h (hideAll s.heap (news.map (·.1))) s.heap.objs.size _ h₁ (fun b o e hb => hideAll_get _ e hb) (fun p hp => Heap.lt_size (N p hp).1) (by rw [hsz]; exact Nat.lt_succ_self _) hDn (F.notModules (modules_low T.nolimit)) ⟨hns₀, fun b o e => hk₁ b o (of_hideAll _ e), by rw [hsz, hideAll_size]; exact Nat.le_succ _⟩ ?_ BG XG TG
  intro p hp
  rcases List.mem_cons.mp hp with rfl | hp
  · refine ⟨hD₁, Nat.ne_of_lt (by rw [hsz]; exact Nat.lt_succ_self _), ?_⟩
    cases q : (hideAll s.heap (news.map (·.1))).get? s.heap.objs.size with
    | none => rfl
    | some o => exact absurd (Heap.lt_size (of_hideAll _ q)) (Nat.lt_irrefl _)
  · exact ⟨hk₁ _ _ (N p hp).1, Nat.ne_of_lt (Nat.lt_trans (Heap.lt_size (N p hp).1) (by rw [hsz]; exact Nat.lt_succ_self _)), hideAll_none _ (List.mem_map_of_mem hp)⟩
end
end Mine
namespace Mine
open PySem PySem.W PySem.Calls PySem.Spec PyProof.Rows
section
variable {prog : Program} {w : World} {A A₀ : Around} {s : Shared} {K : Frag} {L : Addr} {h₀ base : Heap} {m mg mb : Str → Option Value} {p : Program} {loose : List Str} {mean : ExcName → Option Value}
  {env : Env} {outer : List Env} {R : Result → Shared → Prop} {name qual : Str} {params : Arguments} {body : List Stmt} {scope : Scope} {dV kV doc pm cdv ct oc : Value} {an od : Option Addr} {osl : Array (Option Value)} {f : Addr} {args : Args} {binds : List (Str × Value)} {news : List (Addr × Obj)}
/-- a call with cells that may change the objects of a ledger -/
theorem base_cellsN (B : Below A₀ base outer h₀) (F : Fr h₀ L s.heap m) (X₀ : K.In h₀) (N : News h₀ L s.heap news) (T : Top p loose mean mg mb h₀) (hA : A.frames = some (env :: outer)) (hf : env.frame = some L) (hke : env.scope.kind = .function)
    (ho : K.lookup f = some ⟨oc, od, .func (fnOf name qual params body scope dV kV doc pm an cdv ct), osl⟩) (hcd : codeIn K cdv qual = true) (hroom : A.depth < recursionLimit)
    (hbind : BindsTo s (fnOf name qual params body scope dV kV doc pm an cdv ct) args binds)
    (hkind : (binds.all fun y => scope.names.lookup y.1 == some .local || scope.names.lookup y.1 == some .cell) = true)
    (hnd : ((cellsFrom 0 scope.names []).map (·.1)).Nodup)
    (h : ∀ g L' h₁ tk cells, (∀ b o, s.heap.get? b = some o → b ∉ news.map (·.1) → g.get? b = some o) → (∀ p ∈ news, p.1 < L') → Fr g L' h₁ (bindL (envOfC qual scope L' f cdv).kindOf binds fun _ => none) → News g L' h₁ (cells ++ news) →
      CellsAre (bindC (envOfC qual scope L' f cdv).kindOf binds fun _ => none) (cellsFrom (L' + 1) scope.names []) cells → Below A base (env :: outer) g → K.In g → Top p loose mean mg mb g →
      wpAny (model prog w) (A.deeper (envOfC qual scope L' f cdv)) (execs body (envOfC qual scope L' f cdv))
        (fun fl s' => R (.ok (.ret (match fl with | .ret v => v | _ => .none))) s')
        (fun e s' => wpAny (model prog w) (A.deeper (envOfC qual scope L' f cdv)) (leaving (envOfC qual scope L' f cdv) e) (fun _ s'' => R (.error e) s'') (fun e' s'' => R (.error e') s'') s')
        { s with heap := h₁, toks := tk })
    (hco : scope.isCoroutine = false) (hgen : scope.isGenerator = false) (hk : scope.kind = .function) : codeAny (model prog w) A (.call (.ref f) args) R s := by
  obtain ⟨_, BG, st, _⟩ := groundX (R := R) B F N hA hf hke
  have XG := Frag.In.keeps X₀ st
  have TG := T.keeps st
  refine codeAny_call_function hroom ((X₀.keeps F.keep) _ _ ho) rfl hco hgen rfl (codeRec_of (X₀.keeps F.keep) hcd) (hbind _ _ _ _ ?_)
  refine wpAny_newFunctionEnv_cells hk (kindsX hkind _) fun env' he s' x => ?_
  subst he
  refine ⟨(T.nolimit.keeps F.keep).keeps x.toInCall.keep, codeAny_func ?_⟩
  obtain ⟨h₁, tk, rfl, _⟩ := x.done
  have hk₁ := x.toInCall.keep
  obtain ⟨cells, NC, Y⟩ := Cl.news (h₀ := s.heap) (Nat.le_refl _) fun n c hm => ⟨x.cell n c (lookup_of_mem_nodup (cellsFrom_names scope.names 0 (s.heap.objs.size + 1) [] [] rfl ▸ hnd) hm), x.above n c hm⟩
  refine h (hideAll s.heap (news.map (·.1))) _ h₁ tk cells (fun b o e hb => hideAll_get _ e hb) (fun p hp => Heap.lt_size (N p hp).1) ⟨x.toInCall.ns, fun b o e => hk₁ b o (of_hideAll _ e), Nat.le_of_eq (hideAll_size _ _)⟩ (fun p hp => ?_) Y BG XG TG
  rcases List.mem_append.mp hp with hp | hp
  · refine ⟨(NC p hp).1, (NC p hp).2.1, ?_⟩
    cases q : (hideAll s.heap (news.map (·.1))).get? p.1 with
    | none => rfl
    | some o =>
      have := (NC p hp).2.2
      rw [of_hideAll _ q] at this
      cases this
  · exact ⟨hk₁ _ _ (N p hp).1, Nat.ne_of_lt (Heap.lt_size (N p hp).1), hideAll_none _ (List.mem_map_of_mem hp)⟩
end
section
variable {prog : Program} {w : World} {A : Around} {E : Value → Shared → Prop} {s : Shared}
/-- x[:] = a list -/
theorem setItem_full {l sl D : Addr} {items new : Array Value} {n : Nat} {Q : Unit → Shared → Prop} (hl : s.heap.get? l = some { cls := .type "list", data := .seq items n }) (hs : s.heap.IsSliceOf sl .none .none .none) (hD : s.heap.IsList D new) (hne : l ≠ D)
    (hsz : items.size ≤ 1000) (hsz' : new.size ≤ 1000)
    (h : ∀ h' n', h'.get? l = some { cls := .type "list", data := .seq new n' } → Heap.SameBut l s.heap h' → Q () { s with heap := h' }) : wpAny (model prog w) A (setItem (.ref l) (.ref sl) (.ref D)) Q E s := by
  have hlT : s.TypeIs (.ref l) "list" := ⟨_, hl, rfl⟩
  obtain ⟨oD, hoD, hcD, nD, hdD⟩ := id hD
  have hDT : s.TypeIs (.ref D) "list" := ⟨oD, hoD, hcD⟩
  obtain ⟨os, hos, hcs, hds⟩ := id hs
  have hTs : s.TypeIs (.ref sl) "slice" := ⟨os, hos, hcs⟩
  unfold setItem
  try with_reducible refine wpAny_holding ?_
  first | refine wpAny_bind (wpAny_pure ?_) | skip
  refine wpAny_bind (wpAny_sequenceKey hlT (by decide) ?_)
  refine wpAny_bind (wpAny_callSpecial?_slot (name := Str.ofString "__setitem__") hlT slot_list_setitem
    (wpAny_call_entry slot_list_setitem hlT entry_list_setitem ?_ (args_list_setitem _ _ _)))
  show wpAny _ _ (Builtin.List.listSubscript? (.ref sl) >>= _) _ _ s
  refine wpAny_bind ?_
  unfold Builtin.List.listSubscript?
  refine wpAny_bind (wpAny_specialOf hTs slice_no_index ?_)
  simp only [Option.isNone_none, if_true]
  refine wpAny_pure ?_
  show wpAny _ _ (typeOf (.ref sl) >>= _) _ _ s
  refine wpAny_bind (wpAny_typeOf hTs ?_)
  rw [if_neg (by decide)]
  rw [listSliceParts_eq]
  refine wpAny_bind (wpAny_bind (wpAny_field hos hds (x := .none) rfl (wpAny_bind (wpAny_listPart .none ?_))))
  rw [if_neg (by decide)]
  refine wpAny_bind (wpAny_field hos hds (x := .none) rfl (wpAny_bind (wpAny_listPart .none ?_)))
  refine wpAny_bind (wpAny_field hos hds (x := .none) rfl (wpAny_bind (wpAny_listPart .none (wpAny_pure ?_))))
  rw [if_neg (by simpa [Builtin.List.listSameRef] using hne)]
  refine wpAny_bind (m := Builtin.List.listAllItems _ _) ?_
  unfold Builtin.List.listAllItems
  refine wpAny_bind (wpAny_typeOf hDT ?_)
  rw [if_pos (by decide)]
  unfold Builtin.List.listItems
  refine wpAny_bind (wpAny_seqItems hoD hdD (wpAny_pure ?_))
  refine wpAny_bind (m := Builtin.List.listItems _) ?_
  unfold Builtin.List.listItems
  refine wpAny_bind (wpAny_seqItems hl rfl (wpAny_pure ?_))
  refine wpAny_bind (wpAny_of_eq (sliceIndices_raw none none none items.size (by simp)) ?_)
  rw [show sliceBounds none none none items.size = ((0 : Int), (items.size : Int), (1 : Int)) from rfl]
  dsimp only
  rw [if_pos (by decide)]
  refine wpAny_bind (wpAny_rule ?_)
  rw [if_neg (by simp [Builtin.List.listTooLong, sizeLine_eq]; omega)]
  refine wpAny_bind (m := Builtin.List.listUpdate _ _) ?_
  unfold Builtin.List.listUpdate
  have hmx : (max (0 : Int) (items.size : Int)).toNat = items.size := by omega
  have hnew : items.extract 0 (0 : Int).toNat ++ new ++ items.extract (max (0 : Int) (items.size : Int)).toNat = new := by
    simp
  obtain ⟨n', hd'⟩ := Obj.data_mapSeq (o := { cls := .type "list", data := .seq items n }) rfl (fun xs : Array Value => xs.extract 0 (0 : Int).toNat ++ new ++ xs.extract (max (0 : Int) (items.size : Int)).toNat)
  rw [hnew] at hd'
  dsimp only
  refine wpAny_updateSeq hl rfl ?_ (by rw [sizeLine_eq]; omega) (by rw [hnew, sizeLine_eq]; omega)
  refine wpAny_bind (wpAny_letGo ?_)
  refine wpAny_pure ⟨.none, rfl, wpAny_pure (h _ n' ?_ (Heap.SameBut.update ..))⟩
  rw [Heap.get?_update_self _ hl (Obj.isFreed_of_seq hd')]
  simp only [Obj.mapSeq] at hd' ⊢
  rw [hd']
theorem full_K {h₀ : Heap} {L l D : Addr} {m : Str → Option Value} {news : List (Addr × Obj)} {items ys : List Value} {n k : Nat} {Q : Unit → Shared → Prop} (F : Fr h₀ L s.heap m) (N : News h₀ L s.heap news) (hl : (l, lstO items n) ∈ news) (hD : (D, lstO ys k) ∈ news) (hne : l ≠ D)
    (z1 : items.length ≤ 1000) (z2 : ys.length ≤ 1000) (h : ∀ h' n', Fr h₀ L h' m → (∀ b o, b ≠ l → s.heap.get? b = some o → h'.get? b = some o) → h'.get? l = some (lstO ys n') → Q () { s with heap := h' }) :
    wpAny (model prog w) A (setItem (.ref l) (.ref s.heap.objs.size) (.ref D)) Q E { s with heap := s.heap.push { cls := .type "slice", data := .fields #[.none, .none, .none] } } := by
  have hl1 := N _ hl
  have hD1 := N _ hD
  refine setItem_full (s := { s with heap := s.heap.push { cls := .type "slice", data := .fields #[.none, .none, .none] } }) (items := items.toArray) (new := ys.toArray) (n := n) (Heap.get?_push_of_some _ hl1.1) (Heap.IsSliceOf.new ..) ⟨_, Heap.get?_push_of_some _ hD1.1, rfl, _, rfl⟩ hne (by simpa using z1) (by simpa using z2) fun h' n' g' sb => ?_
  refine h h' n' ((F.push _).change sb hl1.2.1 hl1.2.2) (fun b o hb e => ?_) g'
  exact sb.extBut b o hb (Heap.get?_push_of_some _ e)
theorem delItem_K {K : Frag} {h₀ : Heap} {L x C f : Addr} {m : Str → Option Value} {ox : Obj} {od : Option Obj} {v : Value} {Q : Unit → Shared → Prop} (F : Fr h₀ L s.heap m) (X₀ : K.In h₀) (I : InstAt s.heap x ox C od) (hq : noSeq K C = true) (hs : findIn K (.ref C) "__delitem__" = some (some (.ref f))) (hf : isFn K (.ref f) = true)
    (h : wpAny (model prog w) A (call (.ref f) [.ref x, v]) (fun _ => Q ()) E s) : wpAny (model prog w) A (delItem (.ref x) v) Q E s := by
  have X := X₀.keeps F.keep
  unfold delItem sequenceKey
  refine wpAny_holding (wpAny_bind (wpAny_bind (I.type.here ?_)))
  refine wpAny_bind ((anyM_none X hq).here ?_)
  rw [if_pos (show (!false) = true from rfl)]
  exact wpAny_pure (wpAny_bind (special_fn X I hs (beq_iff_eq.mp hf) (wpAny_mono h (fun _ _ z => wpAny_pure z) fun _ _ z => z)))
theorem led_upd {h₀ h h' : Heap} {L l : Addr} {m : Str → Option Value} {o o' : Obj} {news : List (Addr × Obj)} {g : Obj → List (Addr × Obj)} (F : Fr h₀ L h m) (N : News h₀ L h news) (U : UpdF l o news g) (k : KeepBut l h h') (hl : h'.get? l = some o') : Fr h₀ L h' m ∧ News h₀ L h' (g o') := by
  obtain ⟨pre, post, rfl, hg, a, c⟩ := U.split
  have Nl := N _ (List.mem_append_right _ (.head _))
  have hb0 : ∀ b o, h₀.get? b = some o → b ≠ l := fun b o e => by
    rintro rfl
    rw [Nl.2.2] at e
    cases e
  refine ⟨⟨F.ns.at' fun o e => k _ o (fun q => Nl.2.1 q.symm) e, fun b o e => k b o (hb0 b o e) (F.keep b o e), F.above⟩, ?_⟩
  rw [hg]
  intro p hp
  rcases List.mem_append.mp hp with hp | hp
  · have := N p (List.mem_append_left _ hp)
    exact ⟨k _ _ (a p hp) this.1, this.2⟩
  · rcases List.mem_cons.mp hp with rfl | hp
    · exact ⟨hl, Nl.2⟩
    · have := N p (List.mem_append_right _ (.tail _ hp))
      exact ⟨k _ _ (c p hp) this.1, this.2⟩
theorem del_len {h h' : Heap} {it items : List Value} {es : List (Str × Str)} {p : Str × Str → Bool} {n : Nat} (a : Tups h it (es.filter p)) (b : Tups h' items es) (c : items.length ≤ n) : it.length ≤ n := by
  rw [Tups.length a]
  rw [Tups.length b] at c
  exact Nat.le_trans (List.length_filter_le _ _) c
end
end Mine
namespace Mine
open PySem PySem.W PySem.Calls PySem.Spec PyProof.Rows
/-- the frame is m but x is v, and these names are any -/
noncomputable def Sh (x : Str) (names : List Str) (m : Str → Option Value) (v : Value) (m' : Str → Option Value) : Prop := ∃ f, m' = fun y => if y = x then some v else over names f m y
section
variable {x z : Str} {names : List Str} {m m' : Str → Option Value} {v v' : Value}
theorem Sh.base (h : m x = some v) : Sh x names m v m := by
  obtain ⟨f, hf⟩ := over_refl (names := names) (m := m)
  refine ⟨f, ?_⟩
  funext y
  rw [← hf]
  by_cases e : y = x
  · subst e; show m y = _; simp only [if_true]; exact h
  · simp only [if_neg e]
noncomputable def Ov (names : List Str) (m m' : Str → Option Value) : Prop := ∃ f, m' = over names f m
theorem Ov.refl : Ov names m m := over_refl
theorem Ov.put (hz : names.contains z = true) (h : Ov names m m') : Ov names m (fun y => if y = z then some v' else m' y) := by
  obtain ⟨f, rfl⟩ := h
  exact over_of fun y hy => by
    have : y ≠ z := by rintro rfl; rw [hz] at hy; cases hy
    simp only [if_neg this]
    exact over_off hy
theorem Ov.over {names' : List Str} {g : Str → Option Value} (hz : (names'.all fun z => names.contains z) = true) (h : Ov names m m') : Ov names m (over names' g m') := by
  obtain ⟨f, rfl⟩ := h
  exact over_of fun y hy => by
    have : names'.contains y = false := by
      cases q : names'.contains y with
      | false => rfl
      | true =>
        rw [List.all_eq_true] at hz
        rw [hz y (by simpa using q)] at hy
        cases hy
    rw [over_off this, over_off hy]
theorem Sh.put (h : Ov (x :: names) m m') : Sh x names m v' (fun y => if y = x then some v' else m' y) := by
  obtain ⟨f, rfl⟩ := h
  refine ⟨f, ?_⟩
  funext y
  by_cases e : y = x
  · simp only [if_pos e]
  · simp only [if_neg e]
    unfold Mine.over
    simp [e]
theorem Sh.skip (hz : names.contains z = true) (hx : (z == x) = false) (h : Sh x names m v m') : Sh x names m v (fun y => if y = z then some v' else m' y) := by
  obtain ⟨f, rfl⟩ := h
  obtain ⟨g, hg⟩ := over_of (names := names) (m := m) (m' := fun y => if y = z then some v' else over names f m y) fun y hy => by
    have : y ≠ z := by rintro rfl; rw [hz] at hy; cases hy
    simp only [if_neg this]
    exact over_off hy
  refine ⟨g, ?_⟩
  rw [← hg]
  funext y
  have hx' : z ≠ x := by simpa using hx
  by_cases e : y = x
  · subst e
    simp only [if_true, if_neg (Ne.symm hx')]
  · by_cases e' : y = z
    · simp only [if_neg e, if_pos e']
    · simp only [if_neg e, if_neg e']
theorem Sh.over {names' : List Str} {g : Str → Option Value} (hz : (names'.all fun z => names.contains z) = true) (hx : names'.contains x = false) (h : Sh x names m v m') : Sh x names m v (over names' g m') := by
  obtain ⟨f, rfl⟩ := h
  obtain ⟨g', hg⟩ := over_of (names := names) (m := m) (m' := over names' g (over names f m)) fun y hy => by
    have : names'.contains y = false := by
      cases q : names'.contains y with
      | false => rfl
      | true =>
        rw [List.all_eq_true] at hz
        rw [hz y (by simpa using q)] at hy
        cases hy
    rw [over_off this, over_off hy]
  refine ⟨g', ?_⟩
  rw [← hg]
  funext y
  by_cases e : y = x
  · subst e
    rw [over_off hx]
    simp only [if_true]
  · simp only [if_neg e]
    unfold Mine.over
    simp only [if_neg e]
theorem Sh.val (e : v = v') (h : Sh x names m v m') : Sh x names m v' m' := e ▸ h
end
theorem int_eq {a b : Int} {t : Tok} (h : a = b) : Value.int a t = Value.int b t := h ▸ rfl
theorem ints_len : ∀ {vs : List Value} {ys : List Int}, IntsAre vs ys → vs.length = ys.length
  | _, _, .nil => rfl
  | _, _, .cons _ _ h => by rw [List.length_cons, List.length_cons, ints_len h]
theorem ints_at : ∀ {vs : List Value} {ys : List Int} {i : Nat} {v : Value}, IntsAre vs ys → vs[i]? = some v → ∃ x t, ys[i]? = some x ∧ v = .int x t
  | _, _, 0, _, .cons x t _, e => by simp at e; exact ⟨x, t, rfl, e.symm⟩
  | _, _, i + 1, _, .cons _ _ h, e => by
    obtain ⟨x, t, a, b⟩ := ints_at h (i := i) (by simpa using e)
    exact ⟨x, t, by simpa using a, b⟩
theorem name_cell {M : Model} {A : Around} {E : Value → Shared → Prop} {s : Shared} {h₀ : Heap} {L : Addr} {m : Str → Option Value} {env : Env} {x : Str} {pos : Pos} {v : Value} {Q : Value → Shared → Prop} {c : Addr} {o : Obj}
    (F : Fr h₀ L s.heap m) (hx : env.kindOf x = some .cell) (hk : env.scope.kind = .function) (hb : (x == ("__debug__" : Str)) = false) (hc : env.cells.lookup x = some c) (hg : h₀.get? c = some o) (hd : o.data = .cell (some v)) (h : Q v s) :
    wpAny M A (eval (.Name x pos) env) Q E s := wpAny_Name (wpAny_loadName_cell hk hx hc ⟨o, F.keep _ _ hg, hd⟩ h) hb
theorem lst_len {prog : Program} {w : World} {A : Around} {E : Value → Shared → Prop} {s : Shared} {Q : Value → Shared → Prop} {h₀ : Heap} {L D : Addr} {news : List (Addr × Obj)} {vs : List Value} {n : Nat} {cs : List Int}
    (N : News h₀ L s.heap news) (hm : (D, lstO vs n) ∈ news) (hi : IntsAre vs cs) (hz : cs.length ≤ 16384) (h : Q (.int cs.length (s.toks + 1)) { s with toks := s.toks + 1 + 1 }) : wpAny (model prog w) A (call (.builtin "len") [.ref D]) Q E s :=
  len_list (items := vs.toArray) ⟨_, (N _ hm).1, rfl, _, rfl⟩ (by rw [List.size_toArray, ints_len hi]; omega) (by rw [List.size_toArray, ints_len hi]; exact h)
/-- how often the wishes lie in the n ports up to this one -/
noncomputable def cntF (ws : List Int) (port size : Int) (n : Int) : Nat := (ws.filter fun w => decide (Int.fmod (port - w) size < n)).length
noncomputable def takenF (ws : List Int) (port size : Int) : Bool := (List.range size.toNat).any fun j => decide (1 + (j : Int) ≤ (cntF ws port size (1 + (j : Int)) : Int))
/-- a client's crossings, its first n steps -/
noncomputable def wentIn (w size tab : Int) : Nat → Int
  | 0 => 0
  | n + 1 => wentIn w size tab n + if Int.fmod (w + (1 + (n : Int))) size = 0 then - Int.fdiv (size - 1) tab else if Int.fmod (Int.fmod (w + (1 + (n : Int))) size) tab = 0 then 1 else 0
noncomputable def wentF (ws ss : List Int) (tab size : Int) : Nat → Int
  | 0 => 0
  | k + 1 => wentF ws ss tab size k + wentIn (ws.getD k 0) size tab (Int.fmod (ss.getD k 0 - ws.getD k 0) size).toNat
end Mine
namespace Mine
open PySem PySem.W PySem.Calls PySem.Spec PyProof.Rows
noncomputable def portsIn (ws : List Int) (size : Int) (ps : List Int) : Nat → List Int
  | 0 => ps
  | j + 1 => if (!(portsIn ws size ps j).any fun x => x == (j : Int)) && takenF ws j size then portsIn ws size ps j ++ [(j : Int)] else portsIn ws size ps j
noncomputable def portsF (ws : List Int) (size : Int) : Nat → List Int
  | 0 => []
  | k + 1 => portsIn (ws.take (k + 1)) size (portsF ws size k) size.toNat
theorem news_adds {h₀ h h' : Heap} {L : Addr} {m : Str → Option Value} {news l : List (Addr × Obj)} (F : Fr h₀ L h m) (N : News h₀ L h' news) (hw : ∀ p ∈ l, h'.get? p.1 = some p.2 ∧ h.get? p.1 = none) : News h₀ L h' (l ++ news) := fun p hp => by
  rcases List.mem_append.mp hp with hp | hp
  · refine ⟨(hw p hp).1, fun e => ?_, ?_⟩
    · obtain ⟨oL, _, _, hL, _⟩ := F.ns
      have := (hw p hp).2
      rw [e, hL] at this; cases this
    · cases q : h₀.get? p.1 with
      | none => rfl
      | some o' => have := (hw p hp).2; rw [F.keep _ _ q] at this; cases this
  · exact N p hp
end Mine
namespace Mine
open PySem PySem.W PySem.Calls PySem.Spec PyProof.Rows
section
variable {prog : Program} {w : World} {A : Around} {E : Value → Shared → Prop} {R : Result → Shared → Prop} {s : Shared} {env : Env}
/-- the same with the end left open -/
noncomputable def CompInR (prog : Program) (w : World) (A : Around) (E : Value → Shared → Prop) (env : Env) (scope : Scope) (cl : List (Str × Addr)) (target elt : Expr) (ifs : List Expr) (use : Option (Value → Sem Unit)) (Q : Value → Shared → Prop) (xv : Value) (s₁ : Shared) : Prop :=
  ∃ r a b t u v, xv = .ref r ∧ IsRange s₁.heap r a b 1 t u v ∧ (-(2 ^ 62) ≤ a ∧ a < 2 ^ 62 ∧ -(2 ^ 62) ≤ b ∧ b < 2 ^ 62) ∧ (b - a).toNat ≤ sizeLine ∧
    ∃ J : Nat → List Value → List (Addr × Obj) → Prop, J 0 [] [] ∧
      (∀ hb C D I oI i tv ys nD news₁ mC h₁ tk₁ E', Keep s₁.heap hb → i < (b - a).toNat → J i ys news₁ → Fr hb C h₁ mC → News hb C h₁ ((I, oI) :: (D, listOf ys.toArray nD) :: news₁) → (∀ p ∈ news₁, p.1 ≠ I ∧ p.1 ≠ D) → I ≠ D →
        wpAny (model prog w) A (assign target (compEnvC scope cl C env) (.int (a + (i : Int)) tv)) (fun _ s₂ =>
          wpAny (model prog w) A (forIn ifs true fun c r => if r = true then do let ok ← isTrue c (compEnvC scope cl C env) (eval c (compEnvC scope cl C env)); pure (ForInStep.yield ok) else pure (ForInStep.yield r)) (fun ok s₃ =>
            if ok = true then wpAny (model prog w) A (eval elt (compEnvC scope cl C env)) (fun y s₄ => CompEnd s₁ hb C I D oI (listOf ys.toArray nD) (J (i + 1) (ys ++ [y])) s₄) E' s₃
            else CompEnd s₁ hb C I D oI (listOf ys.toArray nD) (J (i + 1) ys) s₃) E' s₂) E' { s₁ with heap := h₁, toks := tk₁ }) ∧
      (∀ ys D nD news h' tk C mC, J (b - a).toNat ys news → Keep s₁.heap h' → s₁.heap.get? D = none → h'.get? D = some (lstO ys nD) → (∀ p ∈ news, h'.get? p.1 = some p.2 ∧ s₁.heap.get? p.1 = none ∧ p.1 ≠ D ∧ p.1 ≠ C) →
        s₁.heap.get? C = none → C ≠ D → h'.Ns C mC → compPost (model prog w) A E use Q (.ref D) C (.ok .next) { s₁ with heap := h', toks := tk })
theorem Comp_coreR {elt iter : Expr} {x : Str} {px : Pos} {ifs : List Expr} {scope : Scope} {cl : List (Str × Addr)} {pos pos' : Pos} {Q : Value → Shared → Prop} {use : Option (Value → Sem Unit)} (hh : A.handled = none)
    (hclos : closureFor scope env = pure cl) (hcell : ∀ y ∈ scope.names, y.2 ≠ .cell) (hkind : scope.kind = .function)
    (hnames : ∀ y ∈ scope.names, y.2 = .local → scope.names.lookup y.1 = some .local)
    (h : wpAny (model prog w) A (eval iter env) (CompInR prog w A E env scope cl (.Name x px) elt ifs use Q) E s)
    (hs : ∀ x, foldedSetIterable iter env x = pure x := by intro _; rfl) :
    wpAny (model prog w) A (comprehension (.ListComp elt [⟨.Name x px, iter, ifs, 0⟩] scope pos) scope env pos' (newList []) false (eval iter env) use) Q E s := by
  refine wpAny_comprehension_free (use := use) rfl hs hclos hkind hnames (wpAny_mono h (fun xv s₁ h₁ => ?_) fun _ _ e => e)
  obtain ⟨r, a, b, t, u, v, rfl, hr, ⟨ha, ha', hb0, hb'⟩, hsz, J, hJ, turn, done⟩ := h₁
  refine wpAny_pyIter_range hr (small_one ha ha' hb0 hb') ?_
  have hszr : Builtin.Range.rangeSize a b 1 = ((b - a).toNat : Int) := by rw [rangeSize_one]; split <;> omega
  rw [hszr]
  generalize (b - a).toNat = n at *
  generalize hH1 : s₁.heap.push { cls := .type "range_iterator", data := .fields #[rawInt a, rawInt (n : Int), rawInt 1] } = H1
  have hI0 : IsRangeIter H1 s₁.heap.objs.size (a + ((0 : Nat) : Int)) ((n : Int) - ((0 : Nat) : Int)) 1 := by
    subst hH1
    simp only [Int.natCast_zero, Int.add_zero, Int.sub_zero]
    exact Heap.get?_push_size _ rfl
  have k1 : Keep s₁.heap H1 := by subst hH1; exact fun b o e => Heap.get?_push_of_some _ e
  have z1 : H1.objs.size = s₁.heap.objs.size + 1 := by subst hH1; rw [Heap.size_push]
  refine wpAny_newObj_type (wpAny_newFunctionEnv hcell (by intro y hy; simp at hy) (fun h₁ hns₁ hsb₁ => ?_) hkind)
  dsimp only at hns₁ hsb₁ ⊢
  generalize hH2 : H1.push { cls := .type "list", dict := none, data := .seq ([] : List Value).toArray } = H2 at hns₁ hsb₁ ⊢
  have zC : H2.objs.size = H1.objs.size + 1 := by rw [← hH2, Heap.size_push]
  have k2 : Keep H1 H2 := by subst hH2; exact fun b o e => Heap.get?_push_of_some _ e
  have k3 : ∀ b o, H2.get? b = some o → h₁.get? b = some o := fun b o e => hsb₁.extBut b o (Nat.ne_of_lt (Heap.lt_size e)) (Heap.get?_push_of_some _ e)
  have hD0 : H2.get? H1.objs.size = some (listOf #[] 0) := by subst hH2; exact Heap.get?_push_size _ rfl
  generalize hI : s₁.heap.objs.size = I at hI0 z1 ⊢
  generalize hD : H1.objs.size = D at z1 zC hD0 ⊢
  have hsb₂ := hsb₁
  generalize hC : H2.objs.size = C at zC hns₁ hsb₁ hsb₂ ⊢
  have hID : I ≠ D := by omega
  have hIC : I ≠ C := by omega
  have hDC : D ≠ C := by omega
  have fresh : ∀ a, I ≤ a → s₁.heap.get? a = none := fun a ha => by
    cases e : s₁.heap.get? a with
    | none => rfl
    | some o' =>
      have := Heap.lt_size e
      rw [hI] at this
      exact absurd this (Nat.not_lt_of_le ha)
  obtain ⟨hb, hhb⟩ : ∃ hb, hb = hideAll H2 [I, D] := ⟨_, rfl⟩
  have hbI : hb.get? I = none := by subst hhb; exact hideAll_none _ (.head _)
  have hbD : hb.get? D = none := by subst hhb; exact hideAll_none _ (.tail _ (.head _))
  have hbz : hb.objs.size = C := by subst hhb; rw [hideAll_size, hC]
  have kb : Keep s₁.heap hb := fun b o e => by
    subst hhb
    have hlt := Heap.lt_size e
    rw [hI] at hlt
    refine hideAll_get _ (k2 _ _ (k1 _ _ e)) fun hm => ?_
    simp only [List.mem_cons, List.not_mem_nil, or_false] at hm
    rcases hm with e' | e'
    · rw [e'] at hlt
      exact absurd hlt (Nat.lt_irrefl _)
    · rw [e', z1] at hlt
      exact absurd hlt (Nat.not_lt_of_le (Nat.le_succ _))
  have F0 : Fr hb C h₁ (fun x => List.lookup x ([] : List (Str × Value)).reverse) := ⟨hns₁, fun b o e => k3 b o (by subst hhb; exact of_hideAll _ e), Nat.le_of_eq hbz⟩
  have N0 : News hb C h₁ [(D, listOf ([] : List Value).toArray 0)] := fun p hp => by
    rw [List.mem_singleton] at hp
    subst hp
    exact ⟨k3 _ _ hD0, hDC, hbD⟩
  have hI1 : IsRangeIter h₁ I (a + ((0 : Nat) : Int)) ((n : Int) - ((0 : Nat) : Int)) 1 := k3 _ _ (k2 _ _ hI0)
  have post : codeAny (model prog w) A (.compLoop (.ListComp elt [⟨.Name x px, iter, ifs, 0⟩] scope pos) 0 (.ref I) (.ref D) (compEnvC scope cl C env)) (compPost (model prog w) A E use Q (.ref D) C) { s₁ with heap := h₁, toks := s₁.toks + ([] : List (Str × Value)).length } := by
    refine compLoop_go (fun k s' => ∃ H tk mC ys nD news i, s' = { s₁ with heap := H, toks := tk } ∧ IsRangeIter H I (a + ((i : Nat) : Int)) ((n : Int) - ((i : Nat) : Int)) 1 ∧ Fr hb C H mC ∧ News hb C H ((D, listOf ys.toArray nD) :: news) ∧ (∀ p ∈ news, p.1 ≠ I ∧ p.1 ≠ D) ∧ J i ys news ∧ ys.length ≤ i ∧ i ≤ n ∧ k = n + 1 - i) ?_ (n + 1)
      ⟨h₁, _, _, [], 0, [], 0, rfl, hI1, F0, N0, (fun _ h => by cases h), hJ, Nat.le_refl _, Nat.zero_le _, rfl⟩
    rintro k s' ⟨H, tk, mC, ys, nD, news, i, rfl, hI', F₁, N₁, hne, hJ₁, hyl, hi, rfl⟩
    by_cases hlt : i < n
    · refine wpAny_pyNext_range_item hI' (by omega) fun h₂ hI₂ hs₂ => ?_
      refine go_any ?_
      have e1 : a + (i : Int) + 1 = a + ((i + 1 : Nat) : Int) := by omega
      have e2 : (n : Int) - (i : Int) - 1 = (n : Int) - ((i + 1 : Nat) : Int) := by omega
      rw [e1, e2] at hI₂
      have F₂ : Fr hb C h₂ mC := ⟨F₁.ns.sameBut hs₂ (Ne.symm hIC), fun b o e => (hs₂.2 b (fun q => by rw [q, hbI] at e; cases e)).trans (F₁.keep b o e), F₁.above⟩
      have hnI : ∀ p ∈ (D, listOf ys.toArray nD) :: news, p.1 ≠ I := fun p hp => by
        rcases List.mem_cons.mp hp with rfl | hp
        · exact fun e => hID e.symm
        · exact (hne p hp).1
      have N₂ : News hb C h₂ ((D, listOf ys.toArray nD) :: news) := fun p hp => ⟨(hs₂.2 p.1 (hnI p hp)).trans (N₁ p hp).1, (N₁ p hp).2⟩
      obtain ⟨oI, hoI, hback⟩ : ∃ oI : Obj, h₂.get? I = some oI ∧ ∀ h' : Heap, h'.get? I = some oI → IsRangeIter h' I (a + ((i + 1 : Nat) : Int)) ((n : Int) - ((i + 1 : Nat) : Int)) 1 := ⟨_, hI₂, fun _ e => e⟩
      have N₃ : News hb C h₂ ((I, oI) :: (D, listOf ys.toArray nD) :: news) := by
        intro p hp
        rcases List.mem_cons.mp hp with rfl | hp
        · exact ⟨hoI, hIC, hbI⟩
        · exact N₂ p hp
      have fin : ∀ ys' s₃, ys'.length ≤ i + 1 → CompEnd s₁ hb C I D oI (listOf ys'.toArray nD) (J (i + 1) ys') s₃ → ∃ m, m < n + 1 - i ∧ ∃ H tk mC ys nD news i, s₃ = { s₁ with heap := H, toks := tk } ∧ IsRangeIter H I (a + ((i : Nat) : Int)) ((n : Int) - ((i : Nat) : Int)) 1 ∧ Fr hb C H mC ∧ News hb C H ((D, listOf ys.toArray nD) :: news) ∧ (∀ p ∈ news, p.1 ≠ I ∧ p.1 ≠ D) ∧ J i ys news ∧ ys.length ≤ i ∧ i ≤ n ∧ m = n + 1 - i := by
        rintro ys' s₃ hy ⟨h3, tk3, m3, news3, rfl, F3, N3, hn3, J3⟩
        exact ⟨n + 1 - (i + 1), by omega, h3, tk3, m3, ys', nD, news3, i + 1, rfl, hback _ (N3 _ (.head _)).1, F3, fun p hp => N3 p (.tail _ hp), hn3, J3, hy, hlt, rfl⟩
      refine wpAny_mono (turn hb C D I oI i _ ys nD news mC h₂ _ _ kb hlt hJ₁ F₂ N₃ hne hID) (fun _ s₂ h₂ => ?_) fun _ _ e => e
      refine wpAny_mono h₂ (fun ok s₃ h₃ => ?_) fun _ _ e => e
      cases ok with
      | false =>
        simp only [Bool.false_eq_true, if_false] at h₃ ⊢
        exact fin ys s₃ (by omega) h₃
      | true =>
        simp only [if_true] at h₃ ⊢
        refine wpAny_mono h₃ (fun y s₄ h₄ => ?_) fun _ _ e => e
        obtain ⟨h4, tk4, m4, news4, rfl, F4, N4, hn4, J4⟩ := h₄
        have hD4 : h4.PlainList D ys.toArray := ⟨nD, (N4 _ (.tail _ (.head _))).1⟩
        refine wpAny_list_append_plain (hsz := by rw [List.size_toArray]; omega) hD4 fun h5 hp5 hs5 => ?_
        obtain ⟨n5, hp5⟩ := hp5
        refine ⟨n + 1 - (i + 1), by omega, h5, tk4, m4, ys ++ [y], n5, news4, i + 1, rfl, hback _ ((hs5.2 I hID).trans (N4 _ (.head _)).1), ⟨F4.ns.sameBut hs5 (Ne.symm hDC), fun b o e => (hs5.2 b (fun q => by rw [q, hbD] at e; cases e)).trans (F4.keep b o e), F4.above⟩, ?_, hn4, J4, by rw [List.length_append, List.length_singleton]; omega, hlt, rfl⟩
        intro p hp
        rcases List.mem_cons.mp hp with rfl | hp
        · exact ⟨by rw [hp5]; simp [W.listOf], hDC, hbD⟩
        · have := N4 p (.tail _ (.tail _ hp))
          exact ⟨(hs5.2 p.1 (hn4 p hp).2).trans this.1, this.2⟩
    · have hin : i = n := by omega
      subst hin
      refine wpAny_pyNext_range_end hh hI' (by omega) fun h₂ hs₂ => ?_
      have up : ∀ b o, b ≠ I → H.get? b = some o → h₂.get? b = some o := fun b o hbI e => hs₂ b o hbI e
      have frb : ∀ b, hb.get? b = none → s₁.heap.get? b = none := fun b e => by
        cases q : s₁.heap.get? b with
        | none => rfl
        | some o => rw [kb _ _ q] at e; cases e
      refine done ys D nD news h₂ tk C mC hJ₁ (fun b o e => ?_) (fresh _ (by omega)) ?_ (fun p hp => ?_) (fresh _ (by omega)) (Ne.symm hDC) (F₁.ns.at' fun o e => hs₂ _ o (Ne.symm hIC) e)
      · have hb1 := kb _ _ e
        exact up b o (fun q => by rw [q, hbI] at hb1; cases hb1) (F₁.keep _ _ hb1)
      · exact up D _ (fun e => hID e.symm) (N₁ _ (.head _)).1
      · have := N₁ p (.tail _ hp)
        exact ⟨up _ _ (hne p hp).1 this.1, frb _ this.2.2, (hne p hp).2, this.2.1⟩
  exact codeAny_compStart_list post (wpAny_pyIter_rangeiter hI1 post)
theorem fresh_L {h₀ h : Heap} {L C : Addr} {m : Str → Option Value} (F : Fr h₀ L h m) (hC : h.get? C = none) : C ≠ L ∧ h₀.get? C = none := by
  refine ⟨fun e => ?_, ?_⟩
  · obtain ⟨oL, _, _, hL, _⟩ := F.ns
    subst e
    rw [hL] at hC; cases hC
  · cases q : h₀.get? C with
    | none => rfl
    | some o' => rw [F.keep _ _ q] at hC; cases hC
theorem news_ne {h₀ h : Heap} {L C : Addr} {news : List (Addr × Obj)} (N : News h₀ L h news) (hC : h.get? C = none) : ∀ p ∈ news, p.1 ≠ C := fun p hp e => by
  have := (N p hp).1
  rw [e, hC] at this
  cases this
/-- an assigned comprehension's end, for a local name -/
theorem local_done {y : Str} {py : Pos} {Q : Value → Shared → Prop} {h₀ h' : Heap} {m mC : Str → Option Value} {news : List (Addr × Obj)} {C D : Addr} {ys : List Value} {nD tk : Nat} {s₁ : Shared} (F : Fr h₀ env.locals s₁.heap m) (N : News h₀ env.locals s₁.heap news)
    (kk : Keep s₁.heap h') (hD : s₁.heap.get? D = none) (hD' : h'.get? D = some (lstO ys nD)) (hC : s₁.heap.get? C = none) (hCD : C ≠ D) (hns : h'.Ns C mC)
    (hy : env.kindOf y = some .local) (hp : (env.scope.kind == .class || (env.scope.kind == .module && env.locals != env.globals)) = false)
    (h : ∀ h3 tk3, Fr h₀ env.locals h3 (fun z => if z = y then some (.ref D) else m z) → News h₀ env.locals h3 ((D, lstO ys nD) :: news) → Q .none { s₁ with heap := h3, toks := tk3 }) :
    compPost (model prog w) A E (some (assign (.Name y py) env)) Q (.ref D) C (.ok .next) { s₁ with heap := h', toks := tk } := by
  refine local_use (s := { s₁ with heap := h', toks := tk }) (fr_keep F kk) (news_add F (news_keep N kk) hD hD') hy hp (fresh_L F hC).1 (fresh_L F hC).2 (fun p hp => ?_) hns h
  rcases List.mem_cons.mp hp with rfl | hp
  · exact Ne.symm hCD
  · exact news_ne N hC p hp
theorem Comp_range {elt iter : Expr} {x : Str} {px : Pos} {ifs : List Expr} {scope : Scope} {cl : List (Str × Addr)} {pos : Pos} {Q : Value → Shared → Prop} (hh : A.handled = none)
    (hclos : closureFor scope env = pure cl) (hcell : ∀ y ∈ scope.names, y.2 ≠ .cell) (hkind : scope.kind = .function)
    (hnames : ∀ y ∈ scope.names, y.2 = .local → scope.names.lookup y.1 = some .local)
    (h : wpAny (model prog w) A (eval iter env) (CompInR prog w A E env scope cl (.Name x px) elt ifs none Q) E s)
    (hs : ∀ x, foldedSetIterable iter env x = pure x := by intro _; rfl) :
    wpAny (model prog w) A (eval (.ListComp elt [⟨.Name x px, iter, ifs, 0⟩] scope pos) env) Q E s := by
  rw [eval_ListComp]
  show wpAny _ A (comprehension (.ListComp elt [⟨.Name x px, iter, ifs, 0⟩] scope pos) scope env _ (newList []) false (eval iter env) none) _ _ s
  exact Comp_coreR hh hclos hcell hkind hnames h hs
end
end Mine
namespace Mine
open PySem PySem.W PySem.Calls PySem.Spec PyProof.Rows
end Mine
namespace Mine
open PySem PySem.W PySem.Calls PySem.Spec PyProof.Rows
/-- no cell -/
noncomputable def cellFree (o : Obj) : Bool := match o.data with
  | .cell _ => false
  | _ => true
section
variable {h₀ h : Heap} {L c : Addr} {news : List (Addr × Obj)} {oc : Obj} {v : Option Value}
theorem ne_cell {p : Addr × Obj} (N : News h₀ L h news) (hm : p ∈ news) (hc : (c, oc) ∈ news) (hoc : oc.data = .cell v) (hf : cellFree p.2 = true) : p.1 ≠ c := fun e => by
  have h1 := (N p hm).1
  have h2 := (N _ hc).1
  rw [e] at h1
  simp only at h2
  rw [h2] at h1
  cases h1
  unfold cellFree at hf
  rw [hoc] at hf
  cases hf
theorem tups_free : ∀ {ps : List (Addr × Obj)} {es : List (Str × Str)}, TupsOf ps es → ∀ p ∈ ps, cellFree p.2 = true
  | [], [], _, _, hp => by cases hp
  | q :: ps, e :: es, ⟨⟨ta, tb, hq⟩, t⟩, p, hp => by
    rcases List.mem_cons.mp hp with rfl | hp
    · rw [hq]; rfl
    · exact tups_free t p hp
theorem tups_ne {ps : List (Addr × Obj)} {es : List (Str × Str)} (N : News h₀ L h news) (hs : ∀ p ∈ ps, p ∈ news) (hc : (c, oc) ∈ news) (hoc : oc.data = .cell v) (ht : TupsOf ps es) : ∀ p ∈ ps, p.1 ≠ c := fun p hp => ne_cell N (hs p hp) hc hoc (tups_free ht p hp)
theorem News.of_mem {news' : List (Addr × Obj)} (N : News h₀ L h news) (hs : ∀ p ∈ news', p ∈ news) : News h₀ L h news' := fun p hp => N p (hs p hp)
end
theorem none_done {prog : Program} {w : World} {A : Around} {E : Value → Shared → Prop} {Q : Value → Shared → Prop} {h' : Heap} {mC : Str → Option Value} {news : List (Addr × Obj)} {C D : Addr} {ys : List Value} {nD tk : Nat} {s₁ : Shared}
    (kk : Keep s₁.heap h') (hD : s₁.heap.get? D = none) (hD' : h'.get? D = some (lstO ys nD)) (hnews : ∀ p ∈ news, h'.get? p.1 = some p.2 ∧ s₁.heap.get? p.1 = none ∧ p.1 ≠ D ∧ p.1 ≠ C) (hC : s₁.heap.get? C = none) (hCD : C ≠ D) (hns : h'.Ns C mC)
    (h : ∀ h3, Keep s₁.heap h3 → (∀ p ∈ (D, lstO ys nD) :: news, h3.get? p.1 = some p.2 ∧ s₁.heap.get? p.1 = none) → Q (.ref D) { s₁ with heap := h3, toks := tk }) :
    compPost (model prog w) A E none Q (.ref D) C (.ok .next) { s₁ with heap := h', toks := tk } :=
  ⟨mC, hns, fun h₃ hs₃ => h h₃ (fun b o e => (hs₃.2 b (fun q => by rw [q, hC] at e; cases e)).trans (kk _ _ e)) fun p hp => by
    rcases List.mem_cons.mp hp with rfl | hp
    · exact ⟨(hs₃.2 D (Ne.symm hCD)).trans hD', hD⟩
    · exact ⟨(hs₃.2 _ (hnews p hp).2.2.2).trans (hnews p hp).1, (hnews p hp).2.1⟩⟩
/-- these objects make x a Whitespace of this state -/
noncomputable def WsP (C : Addr) (P : Params) (l : List (Addr × Obj)) (x : Addr) (st : WsSt) : Prop := ∀ h : Heap, (∀ p ∈ l, h.get? p.1 = some p.2) → WsAt C P h x st
theorem WsP.of {C : Addr} {P : Params} {x d D1 D2 : Addr} {k1 k2 k3 k4 k5 tn tt tb : Tok} {rv sv : Value} {vs : List Value} {st : WsSt} (hi : IntsAre vs st.cs) : WsP C P (wsL C P x d D1 D2 k1 k2 k3 k4 k5 rv (.int st.n tn) (.int st.nt tt) (.int st.b tb) sv vs) x st :=
  fun _ H => ⟨d, D1, D2, k1, k2, k3, k4, k5, tn, tt, tb, rv, sv, vs, H, hi⟩
theorem WsP.of' {C : Addr} {P : Params} {x d D1 D2 : Addr} {k1 k2 k3 k4 k5 tn tt tb : Tok} {rv sv : Value} {vs : List Value} {st : WsSt} {R : Addr × Obj → Prop} (_ : ∀ p ∈ wsL C P x d D1 D2 k1 k2 k3 k4 k5 rv (.int st.n tn) (.int st.nt tt) (.int st.b tb) sv vs, R p) (hi : IntsAre vs st.cs) : WsP C P (wsL C P x d D1 D2 k1 k2 k3 k4 k5 rv (.int st.n tn) (.int st.nt tt) (.int st.b tb) sv vs) x st := WsP.of hi
theorem WsP.at {C : Addr} {P : Params} {l news : List (Addr × Obj)} {x : Addr} {st : WsSt} {h₀ h : Heap} {L : Addr} (p : WsP C P l x st) (N : News h₀ L h news) (n : ∀ q ∈ l, q ∈ news) : WsAt C P h x st := p h fun q hq => (N q (n q hq)).1
/-- where the sorted wishes are above the stairs -/
noncomputable def overF (os : List Int) (n : Nat) : List Int := ((List.range n).filter fun (i : Nat) => decide ((i : Int) < os.getD i 0)).map fun (i : Nat) => (i : Int)
section
variable {prog : Program} {w : World} {A : Around} {E : Value → Shared → Prop} {s : Shared} {a b : Addr} {Q : Value → Shared → Prop} {na nb : Nat} {xs ys : List Value}
end
/-- the wishes' column by a plain sum -/
noncomputable def colF (wd : List Int) (tab : Int) : Int := (wd.map fun w => (Int.fdiv w tab + 1) * tab).sum
/-- what is due behind the first n tab sizes -/
noncomputable def dueF (wd ss : List Int) (sz : Int) : Nat → List (Int × Int × Int)
  | 0 => []
  | n + 1 => dueF wd ss sz n ++ (if wentF wd ss (1 + (n : Int)) sz wd.length = 0 then [] else [(1 + (n : Int), colF wd (1 + (n : Int)) + (1 + (n : Int)) * wentF wd ss (1 + (n : Int)) sz wd.length, colF wd (1 + (n : Int)))])
theorem trip_free : ∀ {ps : List (Addr × Obj)} {es : List (Int × Int × Int)}, TripOf ps es → ∀ p ∈ ps, cellFree p.2 = true
  | [], [], _, _, hp => by cases hp
  | q :: ps, e :: es, ⟨⟨ta, tb, tc, hq⟩, t⟩, p, hp => by
    rcases List.mem_cons.mp hp with rfl | hp
    · rw [hq]; rfl
    · exact trip_free t p hp
theorem trips_ne {h₀ h : Heap} {L c : Addr} {news : List (Addr × Obj)} {oc : Obj} {v : Option Value} {ps : List (Addr × Obj)} {es : List (Int × Int × Int)} (N : News h₀ L h news) (hs : ∀ p ∈ ps, p ∈ news) (hc : (c, oc) ∈ news) (hoc : oc.data = .cell v) (ht : TripOf ps es) : ∀ p ∈ ps, p.1 ≠ c := fun p hp => ne_cell N (hs p hp) hc hoc (trip_free ht p hp)
theorem fresh_ne {h : Heap} {a D : Addr} {o : Obj} (ha : h.get? a = some o) (hD : h.get? D = none) : D < a ∨ D > a := Nat.lt_or_gt_of_ne fun e => by
  rw [e, ha] at hD
  cases hD
/-- a lead of small ports -/
theorem fold_repl (st : WsSt) : ∀ n : Nat, (List.replicate n 32).foldl wsStep st = ⟨st.cs, st.b + n, st.n + n, st.nt⟩
  | 0 => by cases st; rfl
  | n + 1 => by
    rw [List.replicate_succ, List.foldl_cons, fold_repl]
    simp only [wsStep, if_true]
    congr 1 <;> omega
theorem fold_piece (st : WsSt) (hb : st.b = 0) (n : Nat) : (List.replicate n 32 ++ [9]).foldl wsStep st = ⟨bumpF st.cs n, 0, st.n + n + 1, st.nt + 1⟩ := by
  rw [List.foldl_append, fold_repl, hb, Nat.zero_add]
  rfl
/-- what the plain law has to tell -/
structure LawFacts (ws : List Int) (sz : Int) : Prop where
  len : (portsF ws sz ws.length).length = ws.length
  seats : ∀ turn : Int, 0 ≤ turn → turn < sz → standsF turn sz ws ws.length = (portsF ws sz ws.length).map fun p => Int.fmod (p + turn) sz
  stairs : ∀ turn : Int, 0 ≤ turn → turn < sz → ∀ os : List Int, os.Perm (ws.map fun a => Int.fmod (a + turn) sz) → os.Pairwise (· ≤ ·) →
    decide ((wsFold (codesF ((portsF ws sz ws.length).map fun p => Int.fmod (p + turn) sz))).cs = (wsFold (codesF (upTo (sz - 1)))).cs ∧ (wsFold (codesF ((portsF ws sz ws.length).map fun p => Int.fmod (p + turn) sz))).b = (wsFold (codesF (upTo (sz - 1)))).b) = decide (overF os ws.length = [])
  same : ∀ turn : Int, 0 ≤ turn → turn < sz → ∀ os : List Int, os.Perm (ws.map fun a => Int.fmod (a + turn) sz) → os.Pairwise (· ≤ ·) → ∀ qs : List Int, qs.Perm ((portsF ws sz ws.length).map fun p => Int.fmod (p + turn) sz) → qs.Pairwise (· ≤ ·) →
    decide ((wsFold (codesF ((portsF ws sz ws.length).map fun p => Int.fmod (p + turn) sz))).cs = (wsFold (codesF (ws.map fun a => Int.fmod (a + turn) sz))).cs ∧ (wsFold (codesF ((portsF ws sz ws.length).map fun p => Int.fmod (p + turn) sz))).b = (wsFold (codesF (ws.map fun a => Int.fmod (a + turn) sz))).b) = decide (qs = os)
  due : ∀ turn : Int, 0 ≤ turn → turn < sz → ∀ M : Int, M ∈ (((portsF ws sz ws.length).map fun p => Int.fmod (p + turn) sz) ++ ws.map fun a => Int.fmod (a + turn) sz) → (∀ a ∈ (((portsF ws sz ws.length).map fun p => Int.fmod (p + turn) sz) ++ ws.map fun a => Int.fmod (a + turn) sz), a ≤ M) →
    witnessF (wsFold (codesF ((portsF ws sz ws.length).map fun p => Int.fmod (p + turn) sz))) (wsFold (codesF (ws.map fun a => Int.fmod (a + turn) sz))) = dueF (ws.map fun a => Int.fmod (a + turn) sz) ((portsF ws sz ws.length).map fun p => Int.fmod (p + turn) sz) sz (M + 1).toNat
  back : (wsFold (codesF (standsF 0 sz ws.reverse ws.length))).cs = (wsFold (codesF (portsF ws sz ws.length))).cs ∧ (wsFold (codesF (standsF 0 sz ws.reverse ws.length))).b = (wsFold (codesF (portsF ws sz ws.length))).b
end Mine
namespace Mine
open PySem PySem.W PySem.Calls PySem.Spec PyProof.Rows
/-- the runs of these ports -/
noncomputable def bumpsF (ps : List Int) (cs : List Int) : List Int := ps.foldl (fun cs p => bumpF cs p.toNat) cs
theorem fold_codes : ∀ (ps : List Int) (st : WsSt), st.b = 0 → ∃ n, (codesF ps).foldl wsStep st = ⟨bumpsF ps st.cs, 0, n, st.nt + ps.length⟩
  | [], st, h => ⟨st.n, by cases st; simp only at h; subst h; rfl⟩
  | p :: ps, st, h => by
    have e : codesF (p :: ps) = (List.replicate p.toNat 32 ++ [9]) ++ codesF ps := by unfold codesF; rw [List.flatMap_cons]
    rw [e, List.foldl_append, fold_piece st h]
    obtain ⟨n, hn⟩ := fold_codes ps ⟨bumpF st.cs p.toNat, 0, st.n + p.toNat + 1, st.nt + 1⟩ rfl
    refine ⟨n, hn.trans ?_⟩
    simp only [List.length_cons, Nat.add_assoc, Nat.add_comm 1]
    rfl
theorem ws_codes (ps : List Int) : (wsFold (codesF ps)).cs = bumpsF ps [] ∧ (wsFold (codesF ps)).b = 0 ∧ (wsFold (codesF ps)).nt = ps.length := by
  obtain ⟨n, h⟩ := fold_codes ps ⟨[], 0, 0, 0⟩ rfl
  have e : wsFold (codesF ps) = ⟨bumpsF ps [], 0, n, ps.length⟩ := by
    unfold wsFold
    rw [h, Nat.zero_add]
  rw [e]
  exact ⟨rfl, rfl, rfl⟩
theorem bump_at (cs : List Int) (b i : Nat) : (bumpF cs b).getD i 0 = cs.getD i 0 + if i = b then 1 else 0 := by
  have hg : ∀ j k : Nat, (cs ++ List.replicate k (0 : Int)).getD j 0 = cs.getD j 0 := by
    intro j k
    simp only [List.getD_eq_getElem?_getD, List.getElem?_append]
    split
    · rfl
    · rename_i h
      rw [List.getElem?_eq_none (by omega : cs.length ≤ j), List.getElem?_replicate]
      split <;> rfl
  unfold bumpF
  have hl : b < (cs ++ List.replicate (b + 1 - cs.length) (0 : Int)).length := by
    rw [List.length_append, List.length_replicate]
    omega
  by_cases h : i = b
  · subst h
    rw [if_pos rfl, List.getD_eq_getElem?_getD, List.getElem?_set_self hl, Option.getD_some, hg]
  · rw [if_neg h, List.getD_eq_getElem?_getD, List.getElem?_set_ne (Ne.symm h), ← List.getD_eq_getElem?_getD, hg, Int.add_zero]
theorem bumps_at : ∀ (ps cs : List Int) (i : Nat), (bumpsF ps cs).getD i 0 = cs.getD i 0 + (ps.countP fun p => p.toNat == i : Nat)
  | [], cs, i => by simp [bumpsF]
  | p :: ps, cs, i => by
    have ih := bumps_at ps (bumpF cs p.toNat) i
    unfold bumpsF at ih ⊢
    rw [List.foldl_cons, ih, bump_at, List.countP_cons]
    by_cases h : p.toNat = i
    · simp only [h, BEq.rfl, if_true]; omega
    · have h' : (p.toNat == i) = false := by simpa using h
      simp only [h', if_neg (Ne.symm h), Bool.false_eq_true, if_false]; omega
theorem bumps_len : ∀ (ps cs : List Int) (i : Nat), i < (bumpsF ps cs).length ↔ i < cs.length ∨ ∃ p ∈ ps, i ≤ p.toNat
  | [], cs, i => by simp [bumpsF]
  | p :: ps, cs, i => by
    have ih := bumps_len ps (bumpF cs p.toNat) i
    unfold bumpsF at ih ⊢
    rw [List.foldl_cons, ih, bump_len]
    constructor
    · rintro (h | ⟨q, hq, h⟩)
      · by_cases h1 : i < cs.length
        · exact .inl h1
        · exact .inr ⟨p, .head _, by omega⟩
      · exact .inr ⟨q, .tail _ hq, h⟩
    · rintro (h | ⟨q, hq, h⟩)
      · exact .inl (by omega)
      · rcases List.mem_cons.mp hq with rfl | hq
        · exact .inl (by omega)
        · exact .inr ⟨q, hq, h⟩
theorem bumps_perm {l l' : List Int} (h : l.Perm l') : bumpsF l [] = bumpsF l' [] := by
  have hl : (bumpsF l []).length = (bumpsF l' []).length := by
    have h1 := bumps_len l []
    have h2 := bumps_len l' []
    have h3 : ∀ i, i < (bumpsF l []).length ↔ i < (bumpsF l' []).length := fun i => by
      rw [h1, h2]
      constructor
      · rintro (a | ⟨q, hq, a⟩)
        · exact .inl a
        · exact .inr ⟨q, h.mem_iff.mp hq, a⟩
      · rintro (a | ⟨q, hq, a⟩)
        · exact .inl a
        · exact .inr ⟨q, h.mem_iff.mpr hq, a⟩
    have a := h3 (bumpsF l []).length
    have b := h3 (bumpsF l' []).length
    omega
  refine List.ext_getElem hl fun i a b => ?_
  have e1 := bumps_at l [] i
  have e2 := bumps_at l' [] i
  rw [h.countP_eq, ← e2] at e1
  rw [List.getD_eq_getElem?_getD, List.getD_eq_getElem?_getD, List.getElem?_eq_getElem a, List.getElem?_eq_getElem b] at e1
  exact e1
/-- columns -/
noncomputable def runF (g : Nat → Int) (tab : Int) : Nat → Int
  | 0 => 0
  | i + 1 => runF g tab i + Int.fdiv (tab + i) tab * g (tab + (i : Int)).toNat
theorem il_run (cs : List Int) (tab : Int) : ∀ k, ilF cs tab k = runF (fun i => cs.getD i 0) tab k
  | 0 => rfl
  | k + 1 => by unfold ilF runF; rw [il_run cs tab k]
theorem il_more (cs : List Int) {tab : Int} (ht : 1 ≤ tab) : ∀ k : Nat, (((cs.length : Int) - tab).toNat ≤ k) → ilF cs tab k = ilF cs tab ((cs.length : Int) - tab).toNat := by
  intro k
  induction k with
  | zero => intro h; rw [Nat.le_zero.mp h]
  | succ k ih =>
    intro h
    by_cases hk : ((cs.length : Int) - tab).toNat ≤ k
    · have hz : cs.getD (tab + (k : Int)).toNat 0 = 0 := by
        rw [List.getD_eq_getElem?_getD, List.getElem?_eq_none (by omega)]; rfl
      rw [show ilF cs tab (k + 1) = ilF cs tab k + Int.fdiv (tab + k) tab * cs.getD (tab + (k : Int)).toNat 0 from rfl, ih hk, hz, Int.mul_zero, Int.add_zero]
    · rw [show ((cs.length : Int) - tab).toNat = k + 1 from by omega]
theorem run_add (g g' : Nat → Int) (tab : Int) : ∀ k, runF (fun i => g i + g' i) tab k = runF g tab k + runF g' tab k
  | 0 => rfl
  | k + 1 => by
    unfold runF
    rw [run_add g g' tab k, Int.mul_add]
    omega
theorem run_one {tab : Int} (ht : 1 ≤ tab) (p : Nat) : ∀ k : Nat, runF (fun i => if i = p then 1 else 0) tab k = if tab ≤ p ∧ (p : Int) < tab + k then Int.fdiv p tab else 0
  | 0 => by rw [if_neg (by omega)]; rfl
  | k + 1 => by
    unfold runF
    rw [run_one ht p k]
    by_cases h : (tab + (k : Int)).toNat = p
    · have hp : (p : Int) = tab + k := by omega
      rw [if_pos h, if_neg (by omega), if_pos (by omega), hp]; omega
    · rw [if_neg h]
      by_cases h2 : tab ≤ p ∧ (p : Int) < tab + k
      · rw [if_pos h2, if_pos (by omega)]; omega
      · rw [if_neg h2, if_neg (by omega)]; omega
end Mine
namespace Mine
open PySem PySem.W PySem.Calls PySem.Spec PyProof.Rows
/-- after k moves -/
inductive MovesTo (step choice : Int) (ps : List Int) : Nat → List Int → Prop
  | zero : MovesTo step choice ps 0 ps
  | succ {k : Nat} {qs : List Int} : MovesTo step choice ps k qs → ableF qs step ≠ [] → MovesTo step choice ps (k + 1) (moveF qs step choice).1
theorem move_one {qs : List Int} {step choice : Int} : (moveF qs step choice).2 = if ableF qs step = [] then 0 else 1 := by
  unfold moveF
  split <;> rfl
theorem able_mem {qs : List Int} {step p : Int} (h : p ∈ ableF qs step) : p ∈ qs ∧ step ≤ p ∧ p - step ∉ qs := by
  have h1 := List.mem_filter.mp h
  simp only [Bool.and_eq_true, Bool.not_eq_true', decide_eq_true_eq, decide_eq_false_iff_not] at h1
  exact h1
theorem move_pick {qs : List Int} {step choice : Int} (h : ableF qs step ≠ []) : ∃ q, q ∈ qs ∧ step ≤ q ∧ q - step ∉ qs ∧ (moveF qs step choice).1 = qs.filter (fun p => decide (p ≠ q)) ++ [q - step] := by
  have hp : 0 < (ableF qs step).length := List.length_pos_iff.mpr h
  have hm : (ableF qs step).getD (Int.fmod choice (ableF qs step).length).toNat 0 ∈ ableF qs step := by
    have h0 := fmod_lo (a := choice) (b := ((ableF qs step).length : Int)) (by omega)
    have h1 := fmod_hi (a := choice) (b := ((ableF qs step).length : Int)) (by omega)
    rw [List.getD_eq_getElem?_getD, List.getElem?_eq_getElem (by omega)]
    exact List.getElem_mem _
  obtain ⟨a, b, c⟩ := able_mem hm
  refine ⟨_, a, b, c, ?_⟩
  unfold moveF
  rw [if_neg h]
theorem filter_ne_len : ∀ {qs : List Int} {q : Int}, q ∈ qs → (qs.filter fun p => decide (p ≠ q)).length + 1 ≤ qs.length
  | a :: qs, q, h => by
    by_cases e : a = q
    · subst e
      rw [List.filter_cons_of_neg (by simp)]
      have := List.length_filter_le (fun p => decide (p ≠ a)) qs
      simp only [List.length_cons]
      omega
    · rw [List.filter_cons_of_pos (by simpa using e)]
      have := filter_ne_len (qs := qs) (q := q) ((List.mem_cons.mp h).resolve_left fun h => e h.symm)
      simp only [List.length_cons]
      omega
theorem filter_sum_le : ∀ {qs : List Int} {q : Int}, (∀ a ∈ qs, 0 ≤ a) → (qs.filter fun p => decide (p ≠ q)).sum ≤ qs.sum
  | [], _, _ => Int.le_refl _
  | a :: qs, q, h => by
    have ih := filter_sum_le (q := q) fun b hb => h b (.tail _ hb)
    have ha := h a (.head _)
    by_cases e : a = q
    · subst e
      rw [List.filter_cons_of_neg (by simp), List.sum_cons]
      omega
    · rw [List.filter_cons_of_pos (by simpa using e), List.sum_cons, List.sum_cons]
      omega
theorem filter_ne_sum : ∀ {qs : List Int} {q : Int}, (∀ a ∈ qs, 0 ≤ a) → q ∈ qs → (qs.filter fun p => decide (p ≠ q)).sum + q ≤ qs.sum
  | a :: qs, q, h, hm => by
    have ha := h a (.head _)
    by_cases e : a = q
    · subst e
      rw [List.filter_cons_of_neg (by simp), List.sum_cons]
      have := filter_sum_le (q := a) fun b hb => h b (.tail _ hb)
      omega
    · rw [List.filter_cons_of_pos (by simpa using e), List.sum_cons, List.sum_cons]
      have := filter_ne_sum (q := q) (fun b hb => h b (.tail _ hb)) ((List.mem_cons.mp hm).resolve_left fun h => e h.symm)
      omega
theorem move_facts {qs : List Int} {step choice : Int} (hr : ∀ a ∈ qs, 0 ≤ a ∧ a < 12) (hs : 1 ≤ step) (h : ableF qs step ≠ []) :
    (∀ a ∈ (moveF qs step choice).1, 0 ≤ a ∧ a < 12) ∧ (moveF qs step choice).1.length ≤ qs.length ∧ (moveF qs step choice).1.sum + 1 ≤ qs.sum := by
  obtain ⟨q, a, b, c, e⟩ := move_pick (choice := choice) h
  rw [e]
  refine ⟨fun x hx => ?_, ?_, ?_⟩
  · rcases List.mem_append.mp hx with hx | hx
    · exact hr x (List.mem_filter.mp hx).1
    · rw [List.mem_singleton] at hx
      have := hr q a
      omega
  · rw [List.length_append, List.length_singleton]
    exact filter_ne_len a
  · have := filter_ne_sum (fun x hx => (hr x hx).1) a
    rw [List.sum_append]
    simp only [List.sum_cons, List.sum_nil]
    omega
theorem sum_nonneg : ∀ {qs : List Int}, (∀ a ∈ qs, 0 ≤ a ∧ a < 12) → 0 ≤ qs.sum
  | [], _ => Int.le_refl _
  | a :: qs, h => by
    have := sum_nonneg fun b hb => h b (.tail _ hb)
    have := h a (.head _)
    rw [List.sum_cons]
    omega
theorem moves_facts {ps : List Int} {step choice : Int} (hr : ∀ a ∈ ps, 0 ≤ a ∧ a < 12) (hs : 1 ≤ step) {k : Nat} {qs : List Int} (h : MovesTo step choice ps k qs) :
    (∀ a ∈ qs, 0 ≤ a ∧ a < 12) ∧ qs.length ≤ ps.length ∧ qs.sum + k ≤ ps.sum := by
  induction h with
  | zero => exact ⟨hr, Nat.le_refl _, by omega⟩
  | succ _ hn ih =>
    obtain ⟨a, b, c⟩ := ih
    obtain ⟨a', b', c'⟩ := move_facts (choice := choice) a hs hn
    exact ⟨a', Nat.le_trans b' b, by omega⟩
/-- these objects, and what stood, bear the items -/
noncomputable def TupP (g : Heap) (tl : List (Addr × Obj)) (it : List Value) (es : List (Str × Str)) : Prop := ∀ h, Keep g h → (∀ p ∈ tl, h.get? p.1 = some p.2) → Tups h it es
theorem tups_led {g h : Heap} {L : Addr} {m : Str → Option Value} (F : Fr g L h m) : ∀ {it : List Value} {es : List (Str × Str)}, Tups h it es → ∃ tl, News g L h tl ∧ TupP g tl it es ∧ ∀ p ∈ tl, p.2.cls = .type "tuple"
  | [], [], _ => ⟨[], News.nil, fun _ _ _ => trivial, fun _ h => nomatch h⟩
  | v :: vs, e :: es, ⟨⟨r, ta, tb, hv, hg⟩, t⟩ => by
    obtain ⟨tl, N, P, C⟩ := tups_led F t
    cases q : g.get? r with
    | none =>
      refine ⟨(r, tupO [.str e.1 ta, .str e.2 tb]) :: tl, fun p hp => ?_, fun h' k H => ⟨⟨r, ta, tb, hv, H _ (.head _)⟩, P h' k fun p hp => H p (.tail _ hp)⟩, fun p hp => ?_⟩
      · rcases List.mem_cons.mp hp with rfl | hp
        · refine ⟨hg, fun e0 => ?_, q⟩
          obtain ⟨oL, _, _, hL, hLd, _⟩ := F.ns
          simp only at e0
          rw [e0, hL] at hg
          cases hg
          cases hLd
        · exact N p hp
      · rcases List.mem_cons.mp hp with rfl | hp
        · rfl
        · exact C p hp
    | some o =>
      refine ⟨tl, N, fun h' k H => ⟨⟨r, ta, tb, hv, ?_⟩, P h' k H⟩, C⟩
      have := F.keep _ _ q
      rw [hg] at this
      cases this
      exact k _ _ q
theorem led_ne {g h : Heap} {L l : Addr} {o : Obj} {tl : List (Addr × Obj)} (N : News g L h tl) (hl : h.get? l = some o) (hc : (o.cls == Value.type "tuple") = false) (C : ∀ p ∈ tl, p.2.cls = .type "tuple") : ∀ p ∈ tl, p.1 ≠ l := fun p hp e => by
  have h1 := (N p hp).1
  rw [e, hl] at h1
  cases h1
  rw [C p hp] at hc
  simp at hc
theorem news_retail {g h : Heap} {L : Addr} {a : Addr × Obj} {tl tl' : List (Addr × Obj)} (N : News g L h (a :: tl)) (N' : News g L h tl') : News g L h (a :: tl') := fun p hp => by
  rcases List.mem_cons.mp hp with rfl | hp
  · exact N _ (.head _)
  · exact N' p hp
theorem put_twice {x : Str} {v v' : Value} {m : Str → Option Value} : (fun y => if y = x then some v else (fun y => if y = x then some v' else m y) y) = fun y => if y = x then some v else m y := by
  funext y
  by_cases h : y = x
  · simp only [if_pos h]
  · simp only [if_neg h]
end Mine
namespace Mine
open PySem PySem.W PySem.Calls PySem.Spec PyProof.Rows
/-- how many ports of this residue -/
noncomputable def resF (qs : List Int) (step r : Int) : Nat := qs.countP fun p => decide (p % step = r)
/-- the ports' quotients, summed -/
noncomputable def muF (qs : List Int) (step : Int) : Int := (qs.map fun p => p / step).sum
theorem perm_out {qs : List Int} {q : Int} (hn : qs.Nodup) (hq : q ∈ qs) : qs.Perm (q :: qs.filter fun p => decide (p ≠ q)) := by
  have h := List.perm_cons_erase hq
  rw [hn.erase_eq_filter] at h
  have e : (qs.filter fun p => p != q) = qs.filter fun p => decide (p ≠ q) := List.filter_congr fun a _ => by
    by_cases h : a = q
    · subst h; simp
    · simp [h]
  rw [e] at h
  exact h
theorem sum_perm {l l' : List Int} (h : l.Perm l') : l.sum = l'.sum := by
  induction h with
  | nil => rfl
  | cons x _ ih => rw [List.sum_cons, List.sum_cons, ih]
  | swap x y l => simp only [List.sum_cons]; omega
  | trans _ _ a b => exact a.trans b
theorem move_inv {qs : List Int} {step choice : Int} (hn : qs.Nodup) (hs : 1 ≤ step) (h : ableF qs step ≠ []) :
    (moveF qs step choice).1.Nodup ∧ (∀ r, resF (moveF qs step choice).1 step r = resF qs step r) ∧ muF (moveF qs step choice).1 step + 1 = muF qs step ∧ (moveF qs step choice).1.length = qs.length := by
  obtain ⟨q, a, b, c, e⟩ := move_pick (choice := choice) h
  have hp := perm_out hn a
  have hm : (q - step) % step = q % step := by rw [Int.sub_emod_right]
  have hd : (q - step) / step = q / step - 1 := by
    have := Int.add_mul_ediv_right q (-1) (show step ≠ 0 by omega)
    rw [show q + -1 * step = q - step from by omega] at this
    rw [this]; omega
  have hnf : (q - step) ∉ qs.filter fun p => decide (p ≠ q) := fun hm => c (List.mem_filter.mp hm).1
  have hnd : (qs.filter fun p => decide (p ≠ q)).Nodup := hn.filter _
  rw [e]
  have hp2 : (qs.filter (fun p => decide (p ≠ q)) ++ [q - step]).Perm ((q - step) :: qs.filter fun p => decide (p ≠ q)) := List.perm_append_comm
  refine ⟨hp2.symm.nodup (List.nodup_cons.mpr ⟨hnf, hnd⟩), fun r => ?_, ?_, ?_⟩
  · unfold resF
    rw [hp2.countP_eq, hp.countP_eq, List.countP_cons, List.countP_cons, hm]
  · unfold muF
    rw [sum_perm (hp2.map _), sum_perm (hp.map _), List.map_cons, List.map_cons, List.sum_cons, List.sum_cons, hd]
    omega
  · rw [hp2.length_eq, hp.length_eq]
    rfl
theorem moves_inv {ps : List Int} {step choice : Int} (hn : ps.Nodup) (hs : 1 ≤ step) {k : Nat} {qs : List Int} (h : MovesTo step choice ps k qs) :
    qs.Nodup ∧ (∀ r, resF qs step r = resF ps step r) ∧ muF qs step + k = muF ps step ∧ qs.length = ps.length := by
  induction h with
  | zero => exact ⟨hn, fun _ => rfl, by omega, rfl⟩
  | succ _ hne ih =>
    obtain ⟨a, b, c, d⟩ := ih
    obtain ⟨a', b', c', d'⟩ := move_inv (choice := choice) a hs hne
    exact ⟨a', fun r => (b' r).trans (b r), by omega, d'.trans d⟩
theorem stuck_down {qs : List Int} {step : Int} (h : ableF qs step = []) {p : Int} (hp : p ∈ qs) (hs : step ≤ p) : p - step ∈ qs := by
  by_cases hm : p - step ∈ qs
  · exact hm
  · have : p ∈ ableF qs step := List.mem_filter.mpr ⟨hp, by simp [hs, hm]⟩
    rw [h] at this
    cases this
theorem stuck_all {qs : List Int} {step : Int} (h : ableF qs step = []) (hs : 1 ≤ step) {p : Int} (hp : p ∈ qs) : ∀ j : Nat, (j : Int) * step ≤ p → p - (j : Int) * step ∈ qs
  | 0, _ => by simpa using hp
  | j + 1, hj => by
    have e : ((j + 1 : Nat) : Int) * step = (j : Int) * step + step := by rw [Int.natCast_add, Int.add_mul]; simp
    rw [e] at hj ⊢
    have ih := stuck_all h hs hp j (by omega)
    have := stuck_down h ih (by omega)
    rwa [show p - ((j : Int) * step + step) = p - (j : Int) * step - step from by omega]
/-- a stuck set is told by how many of each residue it has -/
theorem stuck_mem {qs : List Int} {step : Int} (h : ableF qs step = []) (hs : 1 ≤ step) (hn : qs.Nodup) (hr : ∀ a ∈ qs, 0 ≤ a) {p : Int} (hp : 0 ≤ p) : p ∈ qs ↔ p / step < (resF qs step (p % step) : Int) := by
  have hq0 : 0 ≤ p / step := Int.ediv_nonneg hp (by omega)
  have hpe : step * (p / step) + p % step = p := Int.mul_ediv_add_emod p step
  have hm0 : 0 ≤ p % step := Int.emod_nonneg _ (by omega)
  have hres : resF qs step (p % step) = (qs.filter fun x => decide (x % step = p % step)).length := by unfold resF; rw [List.countP_eq_length_filter]
  constructor
  · intro hm
    have hsub := nodup_len ((List.range ((p / step).toNat + 1)).map fun j : Nat => p - (j : Int) * step) (qs.filter fun x => decide (x % step = p % step)) ?_ ?_
    · rw [List.length_map, List.length_range, ← hres] at hsub
      omega
    · unfold List.Nodup
      rw [List.pairwise_map]
      refine List.Pairwise.imp (fun {a b} hne e => ?_) (List.nodup_range (n := (p / step).toNat + 1))
      have : (a : Int) * step = (b : Int) * step := by omega
      have := Int.eq_of_mul_eq_mul_right (by omega : step ≠ 0) this
      omega
    · intro x hx
      obtain ⟨j, hj, rfl⟩ := List.mem_map.mp hx
      rw [List.mem_range] at hj
      have hle : (j : Int) * step ≤ p := by
        have h1 : (j : Int) * step ≤ (p / step) * step := Int.mul_le_mul_of_nonneg_right (by omega) (by omega)
        have h2 : (p / step) * step = step * (p / step) := Int.mul_comm _ _
        omega
      refine List.mem_filter.mpr ⟨stuck_all h hs hm j hle, decide_eq_true ?_⟩
      rw [Int.sub_emod, Int.mul_emod_left, Int.sub_zero, Int.emod_emod_of_dvd _ (Int.dvd_refl _)]
  · intro hlt
    by_cases hm : p ∈ qs
    · exact hm
    exfalso
    have hsub := nodup_len (qs.filter fun x => decide (x % step = p % step)) ((List.range (p / step).toNat).map fun j : Nat => p - ((j : Int) + 1) * step) (hn.filter _) ?_
    · rw [List.length_map, List.length_range, ← hres] at hsub
      omega
    · intro x hx
      obtain ⟨hxq, hxe⟩ := List.mem_filter.mp hx
      have hxe := of_decide_eq_true hxe
      have hx0 := hr x hxq
      have hxd : step * (x / step) + x % step = x := Int.mul_ediv_add_emod x step
      have hxn : 0 ≤ x / step := Int.ediv_nonneg hx0 (by omega)
      have hlt2 : x / step < p / step := by
        by_cases hge : p / step ≤ x / step
        · exfalso
          have hj : (((x / step - p / step).toNat : Nat) : Int) * step = step * (x / step) - step * (p / step) := by
            rw [show (((x / step - p / step).toNat : Nat) : Int) = x / step - p / step from by omega, Int.sub_mul, Int.mul_comm step, Int.mul_comm step]
          have := stuck_all h hs hxq (x / step - p / step).toNat (by rw [hj]; omega)
          rw [hj, show x - (step * (x / step) - step * (p / step)) = p from by omega] at this
          exact hm this
        · omega
      refine List.mem_map.mpr ⟨(p / step - x / step - 1).toNat, List.mem_range.mpr (by omega), ?_⟩
      have : ((((p / step - x / step - 1).toNat : Nat) : Int) + 1) * step = step * (p / step) - step * (x / step) := by
        rw [show (((p / step - x / step - 1).toNat : Nat) : Int) + 1 = p / step - x / step from by omega, Int.sub_mul, Int.mul_comm step, Int.mul_comm step]
      rw [this]
      omega
end Mine
namespace Mine
open PySem PySem.W PySem.Calls PySem.Spec PyProof.Rows
/-- the shape's rows -/
noncomputable def rowsF (os : List Int) : List Int := (List.range os.length).map fun (k : Nat) => os.getD k 0 - (k : Int)
/-- the hooks of row k's first n cells that the step divides -/
noncomputable def hookIn (rows : List Int) (step : Int) (k : Nat) : Nat → Int
  | 0 => 0
  | n + 1 => hookIn rows step k n + if Int.fmod (rows.getD k 0 - (n : Int) + (((rows.take k).filter fun r => decide ((n : Int) < r)).length : Int)) step = 0 then 1 else 0
noncomputable def hookF (rows : List Int) (step : Int) : Nat → Int
  | 0 => 0
  | k + 1 => hookF rows step k + hookIn rows step k (rows.getD k 0).toNat
/-- is the port a sum of first and second steps -/
noncomputable def paidF (one two port : Int) : List Int := ((List.range (Int.fdiv port one + 1).toNat).filter fun (a : Nat) => decide (Int.fmod (port - (a : Int) * one) two = 0)).map fun (a : Nat) => (a : Int)
noncomputable def unpaidF (one two : Int) (n : Nat) : List Int := ((List.range n).filter fun (k : Nat) => decide (paidF one two (1 + (k : Int)) = [])).map fun (k : Nat) => 1 + (k : Int)
end Mine
namespace Mine
open PySem PySem.W PySem.Calls PySem.Spec PyProof.Rows
section
variable {prog : Program} {w : World} {A : Around} {E : Value → Shared → Prop} {R : Result → Shared → Prop} {s : Shared} {env : Env}
/-- the namespace of a comprehension of its own with one cell -/
theorem newEnv_one {scope : Scope} {globals : Addr} {closure : List (Str × Addr)} {qual : Str} {outer : Env} {b : Addr} {x : Str} {Q : Env → Shared → Prop}
    (hone : ∀ n cl (h : Heap), cellsFrom n scope.names cl = (x, n) :: cl ∧ pushCells h scope.names = h.push { cls := .type "cell", data := .cell none })
    (hQ : Q (newEnv scope s.heap.objs.size globals ((x, s.heap.objs.size + 1) :: closure) qual none .none (some outer) b) { s with heap := (s.heap.push { cls := .type "dict", data := .dict #[] }).push { cls := .type "cell", data := .cell none } }) :
    wpAny (model prog w) A (newFunctionEnv scope globals closure [] qual none .none (some outer) b) Q E s := by
  simp only [newFunctionEnv, Option.isSome_some, if_true]
  refine wpAny_bind (wpAny_alloc ?_)
  refine wpAny_bind (wpAny_layCells _ (fun name kind cells => by cases hkc : kind == NameKind.cell <;> simp [hkc]) _ _ _ _ ?_)
  rw [(hone _ _ s.heap).1, (hone 0 [] _).2]
  rw [show ({ s with heap := s.heap.push { cls := .type "dict", data := .dict #[] } } : Shared).heap.objs.size = s.heap.objs.size + 1 from Heap.size_push ..]
  rw [List.forIn_nil]
  exact wpAny_bind (wpAny_pure (wpAny_pure hQ))
/-- a turn's end, the target in a cell -/
noncomputable def CompEndC (s₁ : Shared) (hb : Heap) (C cc I D : Addr) (oc oI oD : Obj) (J : List (Addr × Obj) → Prop) (s₃ : Shared) : Prop :=
  ∃ h' tk m' news₂, s₃ = { s₁ with heap := h', toks := tk } ∧ Fr hb C h' m' ∧ News hb C h' ((cc, oc) :: (I, oI) :: (D, oD) :: news₂) ∧ (∀ p ∈ news₂, p.1 ≠ cc ∧ p.1 ≠ I ∧ p.1 ≠ D) ∧ J news₂
/-- what it wants behind its range -/
noncomputable def CompInC (prog : Program) (w : World) (A : Around) (E : Value → Shared → Prop) (env : Env) (scope : Scope) (cl : List (Str × Addr)) (x : Str) (elt : Expr) (ifs : List Expr) (use : Option (Value → Sem Unit)) (Q : Value → Shared → Prop) (xv : Value) (s₁ : Shared) : Prop :=
  ∃ r a b t u v, xv = .ref r ∧ IsRange s₁.heap r a b 1 t u v ∧ (-(2 ^ 62) ≤ a ∧ a < 2 ^ 62 ∧ -(2 ^ 62) ≤ b ∧ b < 2 ^ 62) ∧ (b - a).toNat ≤ sizeLine ∧
    ∃ J : Nat → List Value → List (Addr × Obj) → Prop, J 0 [] [] ∧
      (∀ hb C cc D I oc oI i tv ys nD news₁ mC h₁ tk₁ E', Keep s₁.heap hb → i < (b - a).toNat → J i ys news₁ → Fr hb C h₁ mC → oc.data = .cell (some (.int (a + (i : Int)) tv)) → News hb C h₁ ((cc, oc) :: (I, oI) :: (D, listOf ys.toArray nD) :: news₁) → (∀ p ∈ news₁, p.1 ≠ cc ∧ p.1 ≠ I ∧ p.1 ≠ D) → I < D → D < C → C < cc →
          wpAny (model prog w) A (forIn ifs true fun c r => if r = true then do let ok ← isTrue c (compEnvC scope ((x, cc) :: cl) C env) (eval c (compEnvC scope ((x, cc) :: cl) C env)); pure (ForInStep.yield ok) else pure (ForInStep.yield r)) (fun ok s₃ =>
            if ok = true then wpAny (model prog w) A (eval elt (compEnvC scope ((x, cc) :: cl) C env)) (fun y s₄ => CompEndC s₁ hb C cc I D oc oI (listOf ys.toArray nD) (J (i + 1) (ys ++ [y])) s₄) E' s₃
            else CompEndC s₁ hb C cc I D oc oI (listOf ys.toArray nD) (J (i + 1) ys) s₃) E' { s₁ with heap := h₁, toks := tk₁ }) ∧
      (∀ ys D nD news h' tk C mC, J (b - a).toNat ys news → Keep s₁.heap h' → s₁.heap.get? D = none → h'.get? D = some (lstO ys nD) → (∀ p ∈ news, h'.get? p.1 = some p.2 ∧ s₁.heap.get? p.1 = none ∧ p.1 ≠ D ∧ p.1 ≠ C) →
        s₁.heap.get? C = none → C ≠ D → h'.Ns C mC → compPost (model prog w) A E use Q (.ref D) C (.ok .next) { s₁ with heap := h', toks := tk })
theorem Comp_coreC {elt iter : Expr} {x : Str} {px : Pos} {ifs : List Expr} {scope : Scope} {cl : List (Str × Addr)} {pos pos' : Pos} {Q : Value → Shared → Prop} {use : Option (Value → Sem Unit)} (hh : A.handled = none)
    (hclos : closureFor scope env = pure cl) (hone : ∀ n cl (h : Heap), cellsFrom n scope.names cl = (x, n) :: cl ∧ pushCells h scope.names = h.push { cls := .type "cell", data := .cell none }) (hkx : ∀ C cl, (compEnvC scope cl C env).kindOf x = some .cell) (hkind : scope.kind = .function)
    (hnames : ∀ y ∈ scope.names, y.2 = .local → scope.names.lookup y.1 = some .local)
    (h : wpAny (model prog w) A (eval iter env) (CompInC prog w A E env scope cl x elt ifs use Q) E s)
    (hs : ∀ x, foldedSetIterable iter env x = pure x := by intro _; rfl) :
    wpAny (model prog w) A (comprehension (.ListComp elt [⟨.Name x px, iter, ifs, 0⟩] scope pos) scope env pos' (newList []) false (eval iter env) use) Q E s := by
  refine wpAny_comprehension_free (use := use) rfl hs hclos hkind hnames (wpAny_mono h (fun xv s₁ h₁ => ?_) fun _ _ e => e)
  obtain ⟨r, a, b, t, u, v, rfl, hr, ⟨ha, ha', hb0, hb'⟩, hsz, J, hJ, turn, done⟩ := h₁
  refine wpAny_pyIter_range hr (small_one ha ha' hb0 hb') ?_
  have hszr : Builtin.Range.rangeSize a b 1 = ((b - a).toNat : Int) := by rw [rangeSize_one]; split <;> omega
  rw [hszr]
  generalize (b - a).toNat = n at *
  generalize hH1 : s₁.heap.push { cls := .type "range_iterator", data := .fields #[rawInt a, rawInt (n : Int), rawInt 1] } = H1
  have hI0 : IsRangeIter H1 s₁.heap.objs.size (a + ((0 : Nat) : Int)) ((n : Int) - ((0 : Nat) : Int)) 1 := by
    subst hH1
    simp only [Int.natCast_zero, Int.add_zero, Int.sub_zero]
    exact Heap.get?_push_size _ rfl
  have k1 : Keep s₁.heap H1 := by subst hH1; exact fun b o e => Heap.get?_push_of_some _ e
  have z1 : H1.objs.size = s₁.heap.objs.size + 1 := by subst hH1; rw [Heap.size_push]
  refine wpAny_newObj_type (newEnv_one hone ?_)
  dsimp only
  generalize hH2 : H1.push { cls := .type "list", dict := none, data := .seq ([] : List Value).toArray } = H2
  have zC : H2.objs.size = H1.objs.size + 1 := by rw [← hH2, Heap.size_push]
  have k2 : Keep H1 H2 := by subst hH2; exact fun b o e => Heap.get?_push_of_some _ e
  have hns₀ : (H2.push { cls := .type "dict", data := .dict #[] }).Ns H2.objs.size fun _ => none := Heap.Ns.new H2 (.type "dict")
  generalize hH3 : H2.push { cls := .type "dict", data := .dict #[] } = H3 at hns₀ ⊢
  have k25 : Keep H2 H3 := by subst hH3; exact fun b o e => Heap.get?_push_of_some _ e
  have z3 : H3.objs.size = H2.objs.size + 1 := by rw [← hH3, Heap.size_push]
  generalize hh₁ : H3.push { cls := .type "cell", data := .cell none } = h₁
  have k35 : Keep H3 h₁ := by subst hh₁; exact fun b o e => Heap.get?_push_of_some _ e
  have k3 : ∀ b o, H2.get? b = some o → h₁.get? b = some o := fun b o e => k35 _ _ (k25 _ _ e)
  have hns₁ : h₁.Ns H2.objs.size fun _ => none := hns₀.keeps k35
  have hcell0 : h₁.get? H3.objs.size = some { cls := .type "cell", data := .cell none } := by subst hh₁; exact Heap.get?_push_size _ rfl
  have hD0 : H2.get? H1.objs.size = some (listOf #[] 0) := by subst hH2; exact Heap.get?_push_size _ rfl
  generalize hI : s₁.heap.objs.size = I at hI0 z1 ⊢
  generalize hD : H1.objs.size = D at z1 zC hD0 ⊢
  generalize hC : H2.objs.size = C at zC z3 hns₁ ⊢
  generalize hcc : H3.objs.size = cc at z3 hcell0
  rw [← z3]
  have hID : I ≠ D := by omega
  have hIC : I ≠ C := by omega
  have hDC : D ≠ C := by omega
  have hlt1 : I < D := by omega
  have hlt2 : D < C := by omega
  have hlt3 : C < cc := by omega
  have fresh : ∀ a, I ≤ a → s₁.heap.get? a = none := fun a ha => by
    cases e : s₁.heap.get? a with
    | none => rfl
    | some o' =>
      have := Heap.lt_size e
      rw [hI] at this
      exact absurd this (Nat.not_lt_of_le ha)
  obtain ⟨hb, hhb⟩ : ∃ hb, hb = hideAll H2 [I, D] := ⟨_, rfl⟩
  have hbI : hb.get? I = none := by subst hhb; exact hideAll_none _ (.head _)
  have hbD : hb.get? D = none := by subst hhb; exact hideAll_none _ (.tail _ (.head _))
  have hbz : hb.objs.size = C := by subst hhb; rw [hideAll_size, hC]
  have kb : Keep s₁.heap hb := fun b o e => by
    subst hhb
    have hlt := Heap.lt_size e
    rw [hI] at hlt
    refine hideAll_get _ (k2 _ _ (k1 _ _ e)) fun hm => ?_
    simp only [List.mem_cons, List.not_mem_nil, or_false] at hm
    rcases hm with e' | e'
    · rw [e'] at hlt
      exact absurd hlt (Nat.lt_irrefl _)
    · rw [e', z1] at hlt
      exact absurd hlt (Nat.not_lt_of_le (Nat.le_succ _))
  have F0 : Fr hb C h₁ (fun _ => none) := ⟨hns₁, fun b o e => k3 b o (by subst hhb; exact of_hideAll _ e), Nat.le_of_eq hbz⟩
  have hbcc : hb.get? cc = none := by
    cases q : hb.get? cc with
    | none => rfl
    | some o => have := Heap.lt_size q; rw [hbz] at this; exact absurd (Nat.lt_trans this hlt3) (Nat.lt_irrefl _)
  have N0 : News hb C h₁ [(cc, { cls := .type "cell", data := .cell none }), (D, listOf ([] : List Value).toArray 0)] := fun p hp => by
    simp only [List.mem_cons, List.not_mem_nil, or_false] at hp
    rcases hp with rfl | rfl
    · exact ⟨hcell0, Nat.ne_of_gt hlt3, hbcc⟩
    · exact ⟨k3 _ _ hD0, hDC, hbD⟩
  have hI1 : IsRangeIter h₁ I (a + ((0 : Nat) : Int)) ((n : Int) - ((0 : Nat) : Int)) 1 := k3 _ _ (k2 _ _ hI0)
  have post : codeAny (model prog w) A (.compLoop (.ListComp elt [⟨.Name x px, iter, ifs, 0⟩] scope pos) 0 (.ref I) (.ref D) (compEnvC scope ((x, cc) :: cl) C env)) (compPost (model prog w) A E use Q (.ref D) C) { s₁ with heap := h₁, toks := s₁.toks } := by
    refine compLoop_go (fun k s' => ∃ H tk mC ys nD news i oc v0, oc.data = .cell v0 ∧ s' = { s₁ with heap := H, toks := tk } ∧ IsRangeIter H I (a + ((i : Nat) : Int)) ((n : Int) - ((i : Nat) : Int)) 1 ∧ Fr hb C H mC ∧ News hb C H ((cc, oc) :: (D, listOf ys.toArray nD) :: news) ∧ (∀ p ∈ news, p.1 ≠ cc ∧ p.1 ≠ I ∧ p.1 ≠ D) ∧ J i ys news ∧ ys.length ≤ i ∧ i ≤ n ∧ k = n + 1 - i) ?_ (n + 1)
      ⟨h₁, _, _, [], 0, [], 0, _, none, rfl, rfl, hI1, F0, N0, (fun _ h => by cases h), hJ, Nat.le_refl _, Nat.zero_le _, rfl⟩
    rintro k s' ⟨H, tk, mC, ys, nD, news, i, oc0, v0, hoc0, rfl, hI', F₁, N₁, hne, hJ₁, hyl, hi, rfl⟩
    by_cases hlt : i < n
    · refine wpAny_pyNext_range_item hI' (by omega) fun h₂ hI₂ hs₂ => ?_
      refine go_any ?_
      have e1 : a + (i : Int) + 1 = a + ((i + 1 : Nat) : Int) := by omega
      have e2 : (n : Int) - (i : Int) - 1 = (n : Int) - ((i + 1 : Nat) : Int) := by omega
      rw [e1, e2] at hI₂
      have F₂ : Fr hb C h₂ mC := ⟨F₁.ns.sameBut hs₂ (Ne.symm hIC), fun b o e => (hs₂.2 b (fun q => by rw [q, hbI] at e; cases e)).trans (F₁.keep b o e), F₁.above⟩
      have hnI : ∀ p ∈ (cc, oc0) :: (D, listOf ys.toArray nD) :: news, p.1 ≠ I := fun p hp => by
        rcases List.mem_cons.mp hp with rfl | hp
        · exact Nat.ne_of_gt (Nat.lt_trans (Nat.lt_trans hlt1 hlt2) hlt3)
        rcases List.mem_cons.mp hp with rfl | hp
        · exact fun e => hID e.symm
        · exact (hne p hp).2.1
      have N₂ : News hb C h₂ ((cc, oc0) :: (D, listOf ys.toArray nD) :: news) := fun p hp => ⟨(hs₂.2 p.1 (hnI p hp)).trans (N₁ p hp).1, (N₁ p hp).2⟩
      obtain ⟨oI, hoI, hback⟩ : ∃ oI : Obj, h₂.get? I = some oI ∧ ∀ h' : Heap, h'.get? I = some oI → IsRangeIter h' I (a + ((i + 1 : Nat) : Int)) ((n : Int) - ((i + 1 : Nat) : Int)) 1 := ⟨_, hI₂, fun _ e => e⟩
      have N₃ : News hb C h₂ ((cc, oc0) :: (I, oI) :: (D, listOf ys.toArray nD) :: news) := by
        intro p hp
        rcases List.mem_cons.mp hp with rfl | hp
        · exact N₂ _ (.head _)
        rcases List.mem_cons.mp hp with rfl | hp
        · exact ⟨hoI, hIC, hbI⟩
        · exact N₂ p (.tail _ hp)
      have fin : ∀ oc v0, oc.data = .cell v0 → ∀ ys' s₃, ys'.length ≤ i + 1 → CompEndC s₁ hb C cc I D oc oI (listOf ys'.toArray nD) (J (i + 1) ys') s₃ → ∃ m, m < n + 1 - i ∧ ∃ H tk mC ys nD news i oc v0, oc.data = .cell v0 ∧ s₃ = { s₁ with heap := H, toks := tk } ∧ IsRangeIter H I (a + ((i : Nat) : Int)) ((n : Int) - ((i : Nat) : Int)) 1 ∧ Fr hb C H mC ∧ News hb C H ((cc, oc) :: (D, listOf ys.toArray nD) :: news) ∧ (∀ p ∈ news, p.1 ≠ cc ∧ p.1 ≠ I ∧ p.1 ≠ D) ∧ J i ys news ∧ ys.length ≤ i ∧ i ≤ n ∧ m = n + 1 - i := by
        rintro oc v0 hv0 ys' s₃ hy ⟨h3, tk3, m3, news3, rfl, F3, N3, hn3, J3⟩
        exact ⟨n + 1 - (i + 1), by omega, h3, tk3, m3, ys', nD, news3, i + 1, oc, v0, hv0, rfl, hback _ (N3 _ (.tail _ (.head _))).1, F3, fun p hp => N3 p (by rcases List.mem_cons.mp hp with rfl | hp; exact .head _; exact .tail _ (.tail _ hp)), hn3, J3, hy, hlt, rfl⟩
      refine wpAny_assign_Name ?_
      refine wpAny_storeName_cell (c := cc) (by simp [compEnvC, relabel, hkind]) (hkx _ _) (by simp [compEnvC]) ⟨oc0, (N₃ _ (.head _)).1, hoc0⟩ fun h₄ hc₄ hs₄ => ?_
      obtain ⟨oc, hoc, hdc⟩ := hc₄
      have hccC : cc ≠ C := Nat.ne_of_gt hlt3
      have F₄ : Fr hb C h₄ mC := ⟨F₂.ns.sameBut hs₄ (Ne.symm hccC), fun b o e => (hs₄.2 b (fun q => by rw [q, hbcc] at e; cases e)).trans (F₂.keep b o e), F₂.above⟩
      have N₄ : News hb C h₄ ((cc, oc) :: (I, oI) :: (D, listOf ys.toArray nD) :: news) := by
        intro p hp
        rcases List.mem_cons.mp hp with rfl | hp
        · exact ⟨hoc, hccC, hbcc⟩
        have h5 := N₃ p (.tail _ hp)
        refine ⟨(hs₄.2 p.1 ?_).trans h5.1, h5.2⟩
        rcases List.mem_cons.mp hp with rfl | hp
        · exact Nat.ne_of_lt (Nat.lt_trans (Nat.lt_trans hlt1 hlt2) hlt3)
        rcases List.mem_cons.mp hp with rfl | hp
        · exact Nat.ne_of_lt (Nat.lt_trans hlt2 hlt3)
        · exact (hne p hp).1
      refine wpAny_mono (turn hb C cc D I oc oI i _ ys nD news mC h₄ _ _ kb hlt hJ₁ F₄ hdc N₄ hne hlt1 hlt2 hlt3) (fun ok s₃ h₃ => ?_) fun _ _ e => e
      cases ok with
      | false =>
        simp only [Bool.false_eq_true, if_false] at h₃ ⊢
        exact fin _ _ hdc ys s₃ (by omega) h₃
      | true =>
        simp only [if_true] at h₃ ⊢
        refine wpAny_mono h₃ (fun y s₄ h₄ => ?_) fun _ _ e => e
        obtain ⟨h4, tk4, m4, news4, rfl, F4, N4, hn4, J4⟩ := h₄
        have hD4 : h4.PlainList D ys.toArray := ⟨nD, (N4 _ (.tail _ (.tail _ (.head _)))).1⟩
        refine wpAny_list_append_plain (hsz := by rw [List.size_toArray]; omega) hD4 fun h5 hp5 hs5 => ?_
        obtain ⟨n5, hp5⟩ := hp5
        refine ⟨n + 1 - (i + 1), by omega, h5, tk4, m4, ys ++ [y], n5, news4, i + 1, oc, _, hdc, rfl, hback _ ((hs5.2 I hID).trans (N4 _ (.tail _ (.head _))).1), ⟨F4.ns.sameBut hs5 (Ne.symm hDC), fun b o e => (hs5.2 b (fun q => by rw [q, hbD] at e; cases e)).trans (F4.keep b o e), F4.above⟩, ?_, hn4, J4, by rw [List.length_append, List.length_singleton]; omega, hlt, rfl⟩
        intro p hp
        rcases List.mem_cons.mp hp with rfl | hp
        · have := N4 _ (.head _)
          exact ⟨(hs5.2 _ (Nat.ne_of_gt (Nat.lt_trans hlt2 hlt3))).trans this.1, this.2⟩
        rcases List.mem_cons.mp hp with rfl | hp
        · exact ⟨by rw [hp5]; simp [W.listOf], hDC, hbD⟩
        · have := N4 p (.tail _ (.tail _ (.tail _ hp)))
          exact ⟨(hs5.2 p.1 (hn4 p hp).2.2).trans this.1, this.2⟩
    · have hin : i = n := by omega
      subst hin
      refine wpAny_pyNext_range_end hh hI' (by omega) fun h₂ hs₂ => ?_
      have up : ∀ b o, b ≠ I → H.get? b = some o → h₂.get? b = some o := fun b o hbI e => hs₂ b o hbI e
      have frb : ∀ b, hb.get? b = none → s₁.heap.get? b = none := fun b e => by
        cases q : s₁.heap.get? b with
        | none => rfl
        | some o => rw [kb _ _ q] at e; cases e
      refine done ys D nD news h₂ tk C mC hJ₁ (fun b o e => ?_) (fresh _ (by omega)) ?_ (fun p hp => ?_) (fresh _ (by omega)) (Ne.symm hDC) (F₁.ns.at' fun o e => hs₂ _ o (Ne.symm hIC) e)
      · have hb1 := kb _ _ e
        exact up b o (fun q => by rw [q, hbI] at hb1; cases hb1) (F₁.keep _ _ hb1)
      · exact up D _ (fun e => hID e.symm) (N₁ _ (.tail _ (.head _))).1
      · have := N₁ p (.tail _ (.tail _ hp))
        exact ⟨up _ _ (hne p hp).2.1 this.1, frb _ this.2.2, (hne p hp).2.2, this.2.1⟩
  exact codeAny_compStart_list post (wpAny_pyIter_rangeiter hI1 post)
theorem Comp_rangeC {elt iter : Expr} {x : Str} {px : Pos} {ifs : List Expr} {scope : Scope} {cl : List (Str × Addr)} {pos : Pos} {Q : Value → Shared → Prop} (hh : A.handled = none)
    (hclos : closureFor scope env = pure cl) (hone : ∀ n cl (h : Heap), cellsFrom n scope.names cl = (x, n) :: cl ∧ pushCells h scope.names = h.push { cls := .type "cell", data := .cell none }) (hkx : ∀ C cl, (compEnvC scope cl C env).kindOf x = some .cell) (hkind : scope.kind = .function)
    (hnames : ∀ y ∈ scope.names, y.2 = .local → scope.names.lookup y.1 = some .local)
    (h : wpAny (model prog w) A (eval iter env) (CompInC prog w A E env scope cl x elt ifs none Q) E s)
    (hs : ∀ x, foldedSetIterable iter env x = pure x := by intro _; rfl) :
    wpAny (model prog w) A (eval (.ListComp elt [⟨.Name x px, iter, ifs, 0⟩] scope pos) env) Q E s := by
  rw [eval_ListComp]
  show wpAny _ A (comprehension (.ListComp elt [⟨.Name x px, iter, ifs, 0⟩] scope pos) scope env _ (newList []) false (eval iter env) none) _ _ s
  exact Comp_coreC hh hclos hone hkx hkind hnames h hs
theorem Comp_assignR {elt iter : Expr} {x : Str} {px : Pos} {ifs : List Expr} {y : Str} {py : Pos} {scope : Scope} {cl : List (Str × Addr)} {pos spos : Pos} {Q : Flow → Shared → Prop} (hh : A.handled = none)
    (hsw : swapsWith (.ListComp elt [⟨.Name x px, iter, ifs, 0⟩] scope pos) (some (.Name y py)) spos.line env = pure true)
    (hclos : closureFor scope env = pure cl) (hcell : ∀ y ∈ scope.names, y.2 ≠ .cell) (hkind : scope.kind = .function)
    (hnames : ∀ y ∈ scope.names, y.2 = .local → scope.names.lookup y.1 = some .local)
    (h : wpAny (model prog w) A (eval iter env) (CompInR prog w A E env scope cl (.Name x px) elt ifs (some (assign (.Name y py) env)) (fun _ s' => Q .next s')) E s)
    (hs : ∀ x, foldedSetIterable iter env x = pure x := by intro _; rfl) :
    wpAny (model prog w) A (exec (.Assign [.Name y py] (.ListComp elt [⟨.Name x px, iter, ifs, 0⟩] scope pos) spos) env) Q E s := by
  rw [exec_Assign_Name_used _ _ _ _ hsw]
  refine wpAny_bind (wpAny_standAt (wpAny_bind ?_))
  show wpAny _ A (do let _ ← comprehension (.ListComp elt [⟨.Name x px, iter, ifs, 0⟩] scope pos) scope env _ (newList []) false (eval iter env) (some (assign (.Name y py) env))) _ _ s
  exact wpAny_bind (wpAny_mono (Comp_coreR hh hclos hcell hkind hnames h hs) (fun _ s' hq => wpAny_pure (wpAny_pure hq)) fun _ _ e => e)
end
end Mine
namespace Mine
open PySem PySem.W PySem.Calls PySem.Spec PyProof.Rows
/-- the stuck set of these residues -/
noncomputable def coreF (step : Int) (ps : List Int) : List Int := ((List.range 12).map fun (n : Nat) => (n : Int)).filter fun p => decide (p / step < (resF ps step (p % step) : Int))
theorem core_nodup (step : Int) (ps : List Int) : (coreF step ps).Nodup := by
  unfold List.Nodup
  refine List.Pairwise.filter _ ?_
  rw [List.pairwise_map]
  exact List.Pairwise.imp (fun h => by omega) (List.nodup_range (n := 12))
theorem core_sorted (step : Int) (ps : List Int) : (coreF step ps).Pairwise (· ≤ ·) := by
  refine List.Pairwise.filter _ ?_
  rw [List.pairwise_map]
  exact List.Pairwise.imp (fun h => by omega) (List.pairwise_lt_range (n := 12))
theorem mem_core {step : Int} {ps : List Int} {p : Int} : p ∈ coreF step ps ↔ (0 ≤ p ∧ p < 12) ∧ p / step < (resF ps step (p % step) : Int) := by
  unfold coreF
  rw [List.mem_filter, List.mem_map, decide_eq_true_eq]
  refine and_congr_left fun _ => ⟨?_, ?_⟩
  · rintro ⟨n, hn, rfl⟩
    rw [List.mem_range] at hn
    omega
  · rintro ⟨a, b⟩
    exact ⟨p.toNat, List.mem_range.mpr (by omega), by omega⟩
/-- whichever go, the end is the core -/
theorem end_core {ps qs : List Int} {step choice : Int} {k : Nat} (hr : ∀ a ∈ ps, 0 ≤ a ∧ a < 12) (hn : ps.Nodup) (hs : 1 ≤ step) (h : MovesTo step choice ps k qs) (he : ableF qs step = []) :
    qs.Perm (coreF step ps) ∧ (k : Int) = muF ps step - muF (coreF step ps) step := by
  obtain ⟨a, b, c, d⟩ := moves_inv hn hs h
  obtain ⟨r1, _, _⟩ := moves_facts hr hs h
  have hp : qs.Perm (coreF step ps) := by
    rw [List.perm_ext_iff_of_nodup a (core_nodup _ _)]
    intro p
    rw [mem_core]
    by_cases hq : 0 ≤ p ∧ p < 12
    · rw [stuck_mem he hs a (fun x hx => (r1 x hx).1) hq.1, b]
      exact ⟨fun h => ⟨hq, h⟩, fun h => h.2⟩
    · exact ⟨fun hm => absurd (r1 p hm) hq, fun h => absurd h.1 hq⟩
  refine ⟨hp, ?_⟩
  have : muF qs step = muF (coreF step ps) step := by unfold muF; exact sum_perm (hp.map _)
  omega
noncomputable def startF (a b c d : Nat) : List Int := [(a : Int), (a : Int) + b + 1, (a : Int) + b + c + 2, (a : Int) + b + c + d + 3]
noncomputable def chkS (one two : Int) (great : List Int) (ps : List Int) : Bool :=
  let c1 := coreF one ps
  let c2 := coreF two c1
  decide (hookF (rowsF ps) one 4 = muF ps one - muF c1 one) && decide (hookF (rowsF c1) two 4 = muF c1 two - muF c2 two) && (ableF c2 one).isEmpty && decide (c1.length = 4) && decide (c2.length = 4) &&
    (List.range 4).all fun k => decide ((rowsF c2).reverse.getD k 0 ≤ great.getD k 0)
noncomputable def greatF (one two : Int) : List Int := (rowsF (unpaidF one two (one * two - 1).toNat)).reverse ++ [0, 0, 0, 0]
noncomputable def chkP (one two : Int) : Bool := let g := greatF one two; (List.range 3).all fun a => (List.range 3).all fun b => (List.range 3).all fun c => (List.range 3).all fun d => chkS one two g (startF a b c d)
theorem chk_a : chkP 2 3 = true := by decide +kernel
theorem chk_b : chkP 3 5 = true := by decide +kernel
theorem chk_c : chkP 3 4 = true := by decide +kernel
theorem chk_d : chkP 2 5 = true := by decide +kernel
theorem chk_e : chkP 3 2 = true := by decide +kernel
theorem chk_f : chkP 5 3 = true := by decide +kernel
theorem chk_g : chkP 4 3 = true := by decide +kernel
theorem chk_h : chkP 5 2 = true := by decide +kernel
end Mine
namespace Mine
open PySem PySem.W PySem.Calls PySem.Spec PyProof.Rows
/-- the eight pairs of steps -/
noncomputable def PairF (one two : Int) : Prop := (one, two) ∈ [((2 : Int), (3 : Int)), (3, 5), (3, 4), (2, 5), (3, 2), (5, 3), (4, 3), (5, 2)]
theorem pair_chk {one two : Int} (h : PairF one two) : chkP one two = true ∧ 2 ≤ one ∧ one ≤ 5 ∧ 2 ≤ two ∧ two ≤ 5 := by
  unfold PairF at h
  simp only [List.mem_cons, Prod.mk.injEq, List.not_mem_nil, or_false] at h
  rcases h with ⟨rfl, rfl⟩ | ⟨rfl, rfl⟩ | ⟨rfl, rfl⟩ | ⟨rfl, rfl⟩ | ⟨rfl, rfl⟩ | ⟨rfl, rfl⟩ | ⟨rfl, rfl⟩ | ⟨rfl, rfl⟩
  · exact ⟨chk_a, by decide, by decide, by decide, by decide⟩
  · exact ⟨chk_b, by decide, by decide, by decide, by decide⟩
  · exact ⟨chk_c, by decide, by decide, by decide, by decide⟩
  · exact ⟨chk_d, by decide, by decide, by decide, by decide⟩
  · exact ⟨chk_e, by decide, by decide, by decide, by decide⟩
  · exact ⟨chk_f, by decide, by decide, by decide, by decide⟩
  · exact ⟨chk_g, by decide, by decide, by decide, by decide⟩
  · exact ⟨chk_h, by decide, by decide, by decide, by decide⟩
structure StartP (one two : Int) (ps : List Int) : Prop where
  h1 : hookF (rowsF ps) one 4 = muF ps one - muF (coreF one ps) one
  h2 : hookF (rowsF (coreF one ps)) two 4 = muF (coreF one ps) two - muF (coreF two (coreF one ps)) two
  h3 : ableF (coreF two (coreF one ps)) one = []
  h4 : (coreF one ps).length = 4
  h5 : (coreF two (coreF one ps)).length = 4
  h6 : ∀ k : Nat, k < 4 → (rowsF (coreF two (coreF one ps))).reverse.getD k 0 ≤ (greatF one two).getD k 0
theorem start_chk {one two : Int} (h : PairF one two) {a b c d : Nat} (ha : a < 3) (hb : b < 3) (hc : c < 3) (hd : d < 3) : StartP one two (startF a b c d) := by
  have h0 := (pair_chk h).1
  unfold chkP at h0
  simp only [List.all_eq_true] at h0
  have h1 := h0 a (List.mem_range.mpr ha) b (List.mem_range.mpr hb) c (List.mem_range.mpr hc) d (List.mem_range.mpr hd)
  unfold chkS at h1
  simp only [Bool.and_eq_true, decide_eq_true_eq, List.isEmpty_iff, List.all_eq_true] at h1
  obtain ⟨⟨⟨⟨⟨a1, a2⟩, a3⟩, a4⟩, a5⟩, a6⟩ := h1
  exact ⟨a1, a2, a3, a4, a5, fun k hk => a6 k (List.mem_range.mpr hk)⟩
theorem start_ok {a b c d : Nat} (ha : a < 3) (hb : b < 3) (hc : c < 3) (hd : d < 3) : (startF a b c d).Nodup ∧ (startF a b c d).Pairwise (· ≤ ·) ∧ (∀ x ∈ startF a b c d, 0 ≤ x ∧ x < 12) ∧ (startF a b c d).length = 4 := by
  unfold startF List.Nodup
  refine ⟨?_, ?_, ?_, rfl⟩
  · simp only [List.pairwise_cons, List.mem_cons, List.not_mem_nil, or_false, forall_eq_or_imp, forall_eq, List.Pairwise.nil, and_true, false_implies, implies_true]
    omega
  · simp only [List.pairwise_cons, List.mem_cons, List.not_mem_nil, or_false, forall_eq_or_imp, forall_eq, List.Pairwise.nil, and_true, false_implies, implies_true]
    omega
  · simp only [List.mem_cons, List.not_mem_nil, or_false, forall_eq_or_imp, forall_eq]
    omega
theorem res_perm {l l' : List Int} (h : l.Perm l') (step r : Int) : resF l step r = resF l' step r := by
  unfold resF
  exact h.countP_eq _
theorem core_perm {l l' : List Int} (h : l.Perm l') (step : Int) : coreF step l = coreF step l' := by
  unfold coreF
  simp only [res_perm h]
theorem able_perm {l l' : List Int} (h : l.Perm l') {step : Int} (e : ableF l step = []) : ableF l' step = [] := by
  unfold ableF at e ⊢
  rw [List.filter_eq_nil_iff] at e ⊢
  intro x hx
  have := e x (h.mem_iff.mpr hx)
  simp only [h.mem_iff] at this
  exact this
theorem sorted_eq {l l' : List Int} (h : l.Perm l') (a : l.Pairwise (· ≤ ·)) (b : l'.Pairwise (· ≤ ·)) : l = l' :=
  List.Perm.eq_of_pairwise (le := (· ≤ ·)) (fun x y _ _ p q => Int.le_antisymm p q) a b h
/-- what the plain law tells of one start -/
theorem law2_all {one two : Int} (h : PairF one two) {a b c d : Nat} (ha : a < 3) (hb : b < 3) (hc : c < 3) (hd : d < 3) {s1 s2 : Int} {k m : Nat} {mid fin : List Int}
    (M1 : MovesTo one s1 (startF a b c d) k mid) (E1 : ableF mid one = []) (M2 : MovesTo two s2 mid m fin) (E2 : ableF fin two = []) :
    mid.Perm (coreF one (startF a b c d)) ∧ (∀ os : List Int, os.Perm (startF a b c d) → os.Pairwise (· ≤ ·) → (k : Int) = hookF (rowsF os) one (rowsF os).length) ∧
    (∀ os : List Int, os.Perm mid → os.Pairwise (· ≤ ·) → (m : Int) = hookF (rowsF os) two (rowsF os).length) ∧ ableF fin one = [] ∧ fin.length = 4 ∧
    (∀ os : List Int, os.Perm fin → os.Pairwise (· ≤ ·) → ∀ j : Nat, j < 4 → (rowsF os).reverse.getD j 0 ≤ (greatF one two).getD j 0) ∧ muF mid one + k = muF (startF a b c d) one ∧ muF fin two + m = muF mid two := by
  obtain ⟨_, p1, p2, p3, p4⟩ := pair_chk h
  obtain ⟨n1, n2, n3, n4⟩ := start_ok ha hb hc hd
  have S := start_chk h ha hb hc hd
  obtain ⟨e1, e2⟩ := end_core n3 n1 (by omega) M1 E1
  obtain ⟨i1, i2, i3, i4⟩ := moves_inv n1 (by omega) M1
  have hmr := (moves_facts n3 (by omega) M1).1
  obtain ⟨f1, f2⟩ := end_core hmr i1 (by omega) M2 E2
  obtain ⟨j1, j2, j3, j4⟩ := moves_inv i1 (by omega) M2
  rw [core_perm e1] at f1 f2
  have hlen : ∀ os : List Int, (rowsF os).length = os.length := fun os => by unfold rowsF; rw [List.length_map, List.length_range]
  have hmm : muF mid two = muF (coreF one (startF a b c d)) two := by unfold muF; exact sum_perm (e1.map _)
  refine ⟨e1, fun os hp hs => ?_, fun os hp hs => ?_, able_perm f1.symm S.h3, ?_, fun os hp hs => ?_, i3, j3⟩
  · rw [sorted_eq hp hs n2, hlen, n4, S.h1, e2]
  · rw [sorted_eq (hp.trans e1) hs (core_sorted _ _), hlen, S.h4, S.h2, f2, hmm]
  · rw [f1.length_eq, S.h5]
  · rw [sorted_eq (hp.trans f1) hs (core_sorted _ _)]
    exact S.h6
theorem moves_cons {ps qs : List Int} {step choice : Int} {k : Nat} (h : ableF ps step ≠ []) (M : MovesTo step choice (moveF ps step choice).1 k qs) : MovesTo step choice ps (k + 1) qs := by
  induction M with
  | zero => exact .succ .zero h
  | succ _ hn ih => exact .succ ih hn
/-- one move ahead of the others -/
theorem moves_start {ps qs : List Int} {step choice : Int} {k : Nat} (M : MovesTo step choice (moveF ps step choice).1 k qs) : ∃ n : Nat, (n : Int) = (moveF ps step choice).2 + k ∧ MovesTo step choice ps n qs := by
  by_cases h : ableF ps step = []
  · have e : moveF ps step choice = (ps, 0) := by unfold moveF; rw [if_pos h]
    rw [e] at M ⊢
    exact ⟨k, by simp, M⟩
  · refine ⟨k + 1, ?_, moves_cons h M⟩
    rw [move_one, if_neg h]
    omega
/-- first moves are told alike -/
theorem move_alike {ps : List Int} {step c c' : Int} : (moveF ps step c).2 = (moveF ps step c').2 := by rw [move_one, move_one]
/-- columns of a lead with two blanks behind -/
theorem level_two {ps : List Int} (h : ∀ a ∈ ps, 0 ≤ a ∧ a < 12) : (wsFold (codesF ps ++ [32, 32])).cs = (wsFold (codesF ps)).cs ∧ (wsFold (codesF ps ++ [32, 32])).b = 2 ∧ (wsFold (codesF ps ++ [32, 32])).nt = ps.length := by
  obtain ⟨a, b, c⟩ := ws_codes ps
  have e : wsFold (codesF ps ++ [32, 32]) = ⟨(wsFold (codesF ps)).cs, (wsFold (codesF ps)).b + 1 + 1, (wsFold (codesF ps)).n + 1 + 1, (wsFold (codesF ps)).nt⟩ := by
    rw [show codesF ps ++ [32, 32] = (codesF ps ++ [32]) ++ [32] from by simp, wsFold_snoc, wsFold_snoc]
    rfl
  rw [e]
  exact ⟨rfl, by rw [b], c⟩
end Mine
namespace Mine
open PySem PySem.W PySem.Calls PySem.Spec PyProof.Rows
/-- a place where the walk waits -/
noncomputable def Hold (p : Prop) : Prop := p
theorem hold_in {p : Prop} (h : Hold p) : p := h
theorem hold_out {p : Prop} (h : p) : Hold p := h
theorem get_ne {h : Heap} {a b : Addr} {o : Obj} (ha : h.get? a = some o) (hb : h.get? b = none) : a ≠ b := fun e => by
  rw [e, hb] at ha
  cases ha
/-- no list -/
noncomputable def lstFree (o : Obj) : Bool := match o.data with
  | .cell _ => true
  | _ => !(o.cls == .type "list")
noncomputable abbrev hdrD (P : Params) (k : Tok) (l : Addr) : Obj := dictOf [{ hash := PyData.keyHash P (Str.ofString "_headers"), key := .str (Str.ofString "_headers") k, val := .ref l }] 1
theorem cell_lfree {o : Obj} {v : Option Value} (h : o.data = .cell v) : lstFree o = true := by
  unfold lstFree
  rw [h]
theorem tup_lfree {o : Obj} (h : o.cls = .type "tuple") : lstFree o = true := by
  unfold lstFree
  rw [h]
  split <;> rfl
section
variable {h₀ h h' : Heap} {L l : Addr} {m : Str → Option Value} {news pre tl rest : List (Addr × Obj)} {it it' : List Value} {n n' : Nat} {es : List (Str × Str)}
theorem free_ne {p : Addr × Obj} (N : News h₀ L h news) (hm : p ∈ news) (hl : (l, lstO it n) ∈ news) (hf : lstFree p.2 = true) : p.1 ≠ l := fun e => by
  have h1 := (N p hm).1
  have h2 := (N _ hl).1
  rw [e] at h1
  simp only at h2
  rw [h2] at h1
  have h3 := Option.some.inj h1
  rw [← h3] at hf
  cases hf
theorem led_move {o o' : Obj} (F : Fr h₀ L h m) (N : News h₀ L h ((l, o) :: rest)) (hne : ∀ p ∈ rest, p.1 ≠ l) (k : KeepBut l h h') (hl : h'.get? l = some o') : Fr h₀ L h' m ∧ News h₀ L h' ((l, o') :: rest) := by
  have Nl := N _ (.head _)
  have hb0 : ∀ b o, h₀.get? b = some o → b ≠ l := fun b o e => by
    rintro rfl
    rw [Nl.2.2] at e
    cases e
  refine ⟨⟨F.ns.at' fun o e => k _ o (fun q => Nl.2.1 q.symm) e, fun b o e => k b o (hb0 b o e) (F.keep b o e), F.above⟩, ?_⟩
  intro p hp
  rcases List.mem_cons.mp hp with rfl | hp
  · exact ⟨hl, Nl.2⟩
  · have := N p (.tail _ hp)
    exact ⟨k _ _ (hne p hp) this.1, this.2⟩
theorem TupP.more {g : Heap} {tl9 : List (Addr × Obj)} (P : TupP g tl it es) : TupP g (tl9 ++ tl) it es := fun h k H => P h k fun p hp => H p (List.mem_append_right _ hp)
theorem TupP.first {g : Heap} {tl9 : List (Addr × Obj)} (P : TupP g tl9 it es) : TupP g (tl9 ++ tl) it es := fun h k H => P h k fun p hp => H p (List.mem_append_left _ hp)
/-- tuples, no cells -/
noncomputable def TupC (tl : List (Addr × Obj)) : Prop := ∀ p ∈ tl, p.2.cls = .type "tuple" ∧ cellFree p.2 = true
theorem tups_ledC {g h : Heap} {L : Addr} {m : Str → Option Value} (F : Fr g L h m) : ∀ {it : List Value} {es : List (Str × Str)}, Tups h it es → ∃ tl, News g L h tl ∧ TupP g tl it es ∧ TupC tl
  | [], [], _ => ⟨[], News.nil, fun _ _ _ => trivial, fun _ h => nomatch h⟩
  | v :: vs, e :: es, ⟨⟨r, ta, tb, hv, hg⟩, t⟩ => by
    obtain ⟨tl, N, P, C⟩ := tups_ledC F t
    cases q : g.get? r with
    | none =>
      refine ⟨(r, tupO [.str e.1 ta, .str e.2 tb]) :: tl, fun p hp => ?_, fun h' k H => ⟨⟨r, ta, tb, hv, H _ (.head _)⟩, P h' k fun p hp => H p (.tail _ hp)⟩, fun p hp => ?_⟩
      · rcases List.mem_cons.mp hp with rfl | hp
        · refine ⟨hg, fun e0 => ?_, q⟩
          obtain ⟨oL, _, _, hL, hLd, _⟩ := F.ns
          simp only at e0
          rw [e0, hL] at hg
          cases hg
          cases hLd
        · exact N p hp
      · rcases List.mem_cons.mp hp with rfl | hp
        · exact ⟨rfl, rfl⟩
        · exact C p hp
    | some o =>
      refine ⟨tl, N, fun h' k H => ⟨⟨r, ta, tb, hv, ?_⟩, P h' k H⟩, C⟩
      have := F.keep _ _ q
      rw [hg] at this
      cases this
      exact k _ _ q
/-- a table behind a move: its list at the head, the tuples in the tail -/
theorem tab_move (F : Fr h₀ L h m) (N : News h₀ L h ((l, lstO it n) :: (pre ++ tl))) (hpre : ∀ p ∈ pre, p.1 ≠ l) (C : TupC tl) (k : KeepBut l h h') (hl : h'.get? l = some (lstO it' n')) (ht : Tups h' it' es) :
    ∃ tl', Fr h₀ L h' m ∧ News h₀ L h' ((l, lstO it' n') :: (pre ++ tl')) ∧ TupP h₀ tl' it' es ∧ TupC tl' ∧ ∀ it0 es0, TupP h₀ tl it0 es0 → TupP h₀ tl' it0 es0 := by
  have hne : ∀ p ∈ pre ++ tl, p.1 ≠ l := fun p hp => by
    rcases List.mem_append.mp hp with hp | hp
    · exact hpre p hp
    · exact free_ne N (.tail _ (List.mem_append_right _ hp)) (.head _) (tup_lfree (C p hp).1)
  obtain ⟨F', N'⟩ := led_move F N hne k hl
  obtain ⟨tl9, N9, P9, C9⟩ := tups_ledC F' ht
  refine ⟨tl9 ++ tl, F', fun p hp => ?_, P9.first, fun p hp => ?_, fun it0 es0 P => P.more⟩
  · rcases List.mem_cons.mp hp with rfl | hp
    · exact N' _ (.head _)
    · rcases List.mem_append.mp hp with hp | hp
      · exact N' _ (.tail _ (List.mem_append_left _ hp))
      · rcases List.mem_append.mp hp with hp | hp
        · exact N9 _ hp
        · exact N' _ (.tail _ (List.mem_append_right _ hp))
  · rcases List.mem_append.mp hp with hp | hp
    · exact C9 p hp
    · exact C p hp
theorem news_swap {a b : Addr × Obj} (N : News h₀ L h (a :: b :: rest)) : News h₀ L h (b :: a :: rest) := fun p hp => by
  rcases List.mem_cons.mp hp with rfl | hp
  · exact N _ (.tail _ (.head _))
  · rcases List.mem_cons.mp hp with rfl | hp
    · exact N _ (.head _)
    · exact N _ (.tail _ (.tail _ hp))
theorem TupP.at (P : TupP h₀ tl it es) (F : Fr h₀ L h m) (N : News h₀ L h news) (hs : ∀ p ∈ tl, p ∈ news) : Tups h it es := P h F.keep fun p hp => (N p (hs p hp)).1
theorem tups_all {ps : List (Addr × Obj)} (h : Heap) (H : ∀ p ∈ ps, h.get? p.1 = some p.2) : ∀ {qs : List (Addr × Obj)}, (∀ p ∈ qs, p ∈ ps) → ∀ {es : List (Str × Str)}, TupsOf qs es → Tups h (qs.map fun p => Value.ref p.1) es
  | [], _, [], _ => trivial
  | p :: qs, hs, e :: es, ⟨⟨ta, tb, q⟩, t⟩ => ⟨⟨p.1, ta, tb, rfl, by rw [H p (hs p (.head _)), q]⟩, tups_all h H (fun x hx => hs x (.tail _ hx)) t⟩
theorem TupsOf.tupP {ps : List (Addr × Obj)} {g : Heap} (ht : TupsOf ps es) : TupP g ps (ps.map fun p => Value.ref p.1) es := fun h _ H => tups_all h H (fun _ hp => hp) ht
theorem TupC.of {ps : List (Addr × Obj)} (h : TupsOf ps es) : TupC ps := fun p hp => ⟨h.cls p hp, tups_free h p hp⟩
theorem TupC.app {a b : List (Addr × Obj)} (h1 : TupC a) (h2 : TupC b) : TupC (a ++ b) := fun p hp => by
  rcases List.mem_append.mp hp with hp | hp
  · exact h1 p hp
  · exact h2 p hp
/-- two tables made one after the other, set in order -/
theorem pack_tabs {x1 d1 l1 x2 d2 l2 lp c4 c3 c2 c1 : Addr × Obj} {t1 t2 : List (Addr × Obj)} (N : News h₀ L h (x2 :: d2 :: l2 :: (t2 ++ x1 :: d1 :: l1 :: (t1 ++ lp :: c4 :: c3 :: c2 :: c1 :: [])))) :
    News h₀ L h (l1 :: l2 :: x1 :: d1 :: x2 :: d2 :: lp :: c4 :: c3 :: c2 :: c1 :: (t1 ++ t2)) := fun p hp => N p (by
  simp only [List.mem_cons, List.mem_append, List.not_mem_nil, or_false] at hp ⊢
  rcases hp with h | h | h | h | h | h | h | h | h | h | h | h | h <;> simp [h])
/-- the columns' loop: what a turn reads at the head -/
theorem pack_F1 {I l t2 t1 l1 x1 e1 xe xm lp c4 c3 c2 c1 : Addr × Obj} (N : News h₀ L h (I :: l :: t2 :: t1 :: l1 :: x1 :: e1 :: xe :: xm :: lp :: c4 :: c3 :: c2 :: c1 :: tl)) :
    News h₀ L h (t1 :: lp :: xm :: c4 :: c3 :: c2 :: c1 :: (I :: l :: t2 :: l1 :: x1 :: e1 :: xe :: tl)) := fun p hp => N p (by
  simp only [List.mem_cons] at hp ⊢
  rcases hp with h | h | h | h | h | h | h | h | h | h | h | h | h | h | h <;> simp [h])
theorem pack_F1' {I l t2 t1 l1 x1 e1 xe xm lp c4 c3 c2 c1 : Addr × Obj} (N : News h₀ L h (t1 :: lp :: xm :: c4 :: c3 :: c2 :: c1 :: (I :: l :: t2 :: l1 :: x1 :: e1 :: xe :: tl))) :
    News h₀ L h (I :: l :: t2 :: t1 :: l1 :: x1 :: e1 :: xe :: xm :: lp :: c4 :: c3 :: c2 :: c1 :: tl) := fun p hp => N p (by
  simp only [List.mem_cons] at hp ⊢
  rcases hp with h | h | h | h | h | h | h | h | h | h | h | h | h | h | h <;> simp [h])
theorem pack_F2 {I l t2 t1 l1 x1 e1 xe xm lp c4 c3 c2 c1 : Addr × Obj} (N : News h₀ L h (I :: l :: t2 :: t1 :: l1 :: x1 :: e1 :: xe :: xm :: lp :: c4 :: c3 :: c2 :: c1 :: tl)) :
    News h₀ L h (t2 :: xm :: xe :: c4 :: c3 :: c2 :: c1 :: (I :: l :: t1 :: l1 :: x1 :: e1 :: lp :: tl)) := fun p hp => N p (by
  simp only [List.mem_cons] at hp ⊢
  rcases hp with h | h | h | h | h | h | h | h | h | h | h | h | h | h | h <;> simp [h])
theorem pack_F2' {I l t2 t1 l1 x1 e1 xe xm lp c4 c3 c2 c1 : Addr × Obj} (N : News h₀ L h (t2 :: xm :: xe :: c4 :: c3 :: c2 :: c1 :: (I :: l :: t1 :: l1 :: x1 :: e1 :: lp :: tl))) :
    News h₀ L h (I :: l :: t2 :: t1 :: l1 :: x1 :: e1 :: xe :: xm :: lp :: c4 :: c3 :: c2 :: c1 :: tl) := fun p hp => N p (by
  simp only [List.mem_cons] at hp ⊢
  rcases hp with h | h | h | h | h | h | h | h | h | h | h | h | h | h | h <;> simp [h])
theorem lt_F {I c : Addr} {o o' : Obj} {l t2 t1 l1 x1 e1 xe xm lp c4 c3 c1 : Addr × Obj} (H : ∀ p ∈ l :: t2 :: t1 :: l1 :: x1 :: e1 :: xe :: xm :: lp :: c4 :: c3 :: (c, o) :: c1 :: tl, p.1 < I) :
    ∀ p ∈ l :: t2 :: t1 :: l1 :: x1 :: e1 :: xe :: xm :: lp :: c4 :: c3 :: (c, o') :: c1 :: tl, p.1 < I := fun p hp => by
  simp only [List.mem_cons] at hp
  rcases hp with h | h | h | h | h | h | h | h | h | h | h | h | h | h
  all_goals first | (rw [h]; exact H (c, o) (by simp [List.mem_cons])) | exact H p (by simp only [List.mem_cons]; simp [h])
theorem ne_F {I : Addr} {oI : Obj} {news : List (Addr × Obj)} (H : ∀ p ∈ news, p.1 < I) : ∀ p ∈ news, ∀ q ∈ [(I, oI)], p.1 ≠ q.1 := fun p hp q hq => by
  rw [List.mem_singleton] at hq
  subst hq
  exact Nat.ne_of_lt (H p hp)
theorem tl_cell {c : Addr} {oc : Obj} {v : Option Value} (N : News h₀ L h news) (hs : ∀ p ∈ tl, p ∈ news) (hc : (c, oc) ∈ news) (hoc : oc.data = .cell v) (C : TupC tl) : ∀ p ∈ tl, p.1 ≠ c := fun p hp => ne_cell N (hs p hp) hc hoc (C p hp).2
theorem cell_list {o : Obj} {D : Addr} {ob : Obj} (N : News h₀ L h news) (_ : o.data = .cell (some (.ref D))) (hm : (D, ob) ∈ news) : h.get? D = some ob := (N _ hm).1
end
end Mine
namespace Mine
open PySem PySem.W PySem.Calls PySem.Spec PyProof.Rows
/-- two leads with two blanks behind have one norm just if their ports are the same numbers -/
theorem norm12 {l l' : List Int} (h : ∀ a ∈ l, 0 ≤ a ∧ a < 12) (h' : ∀ a ∈ l', 0 ≤ a ∧ a < 12) :
    ((wsFold (codesF l ++ [32, 32])).cs = (wsFold (codesF l' ++ [32, 32])).cs ∧ (wsFold (codesF l ++ [32, 32])).b = (wsFold (codesF l' ++ [32, 32])).b) ↔ l.Perm l' := by
  rw [(level_two h).1, (level_two h').1, (level_two h).2.1, (level_two h').2.1, (ws_codes l).1, (ws_codes l').1]
  constructor
  · rintro ⟨e, _⟩
    rw [List.perm_iff_count]
    intro a
    by_cases ha : 0 ≤ a
    · have e1 := bumps_at l [] a.toNat
      have e2 := bumps_at l' [] a.toNat
      rw [e, e2] at e1
      have hc : ∀ m : List Int, (∀ b ∈ m, 0 ≤ b ∧ b < 12) → m.countP (fun p => p.toNat == a.toNat) = m.count a := fun m hm => by
        unfold List.count
        refine List.countP_congr fun b hb => ?_
        have := hm b hb
        simp only [beq_iff_eq]
        omega
      rw [hc l h, hc l' h'] at e1
      omega
    · rw [List.count_eq_zero_of_not_mem (fun hm => ha (h a hm).1), List.count_eq_zero_of_not_mem (fun hm => ha (h' a hm).1)]
  · exact fun p => ⟨bumps_perm p, rfl⟩
/-- the law's first question: leads equal just if the sorted ports are -/
theorem lead_sorted {l l' os os' : List Int} (h : ∀ a ∈ l, 0 ≤ a ∧ a < 12) (h' : ∀ a ∈ l', 0 ≤ a ∧ a < 12) (p : os.Perm l) (p' : os'.Perm l') (s : os.Pairwise (· ≤ ·)) (s' : os'.Pairwise (· ≤ ·)) :
    decide ((wsFold (codesF l ++ [32, 32])).cs = (wsFold (codesF l' ++ [32, 32])).cs ∧ (wsFold (codesF l ++ [32, 32])).b = (wsFold (codesF l' ++ [32, 32])).b) = decide (os = os') := by
  rw [decide_eq_decide, norm12 h h']
  constructor
  · exact fun q => sorted_eq ((p.trans q).trans p'.symm) s s'
  · rintro rfl
    exact p.symm.trans p'
theorem run_bumps12 {tab : Int} (ht : 1 ≤ tab) : ∀ (ps cs : List Int), (∀ a ∈ ps, 0 ≤ a ∧ a < 12) → runF (fun i => (bumpsF ps cs).getD i 0) tab 12 = runF (fun i => cs.getD i 0) tab 12 + (ps.map fun p => Int.fdiv p tab).sum
  | [], cs, _ => by simp [bumpsF]
  | p :: ps, cs, h => by
    have ih := run_bumps12 ht ps (bumpF cs p.toNat) fun a ha => h a (.tail _ ha)
    have hp := h p (.head _)
    have e : (fun i => (bumpF cs p.toNat).getD i 0) = fun i => (cs.getD i 0) + (if i = p.toNat then 1 else 0) := funext fun i => bump_at cs p.toNat i
    unfold bumpsF at ih ⊢
    rw [List.foldl_cons, ih, e, run_add, run_one ht, List.map_cons, List.sum_cons, Int.add_assoc]
    congr 2
    rw [show ((p.toNat : Nat) : Int) = p from by omega]
    split
    · rfl
    · rename_i hn
      rw [Int.fdiv_eq_ediv_of_nonneg _ (by omega), Int.ediv_eq_zero_of_lt hp.1 (by omega)]
theorem sum_plus {tab : Int} : ∀ l : List Int, (l.map fun p => Int.fdiv p tab + 1).sum = (l.map fun p => Int.fdiv p tab).sum + l.length
  | [] => rfl
  | a :: l => by
    rw [List.map_cons, List.map_cons, List.sum_cons, List.sum_cons, sum_plus l, List.length_cons]
    omega
theorem level12 {ps : List Int} (h : ∀ a ∈ ps, 0 ≤ a ∧ a < 12) {tab : Int} (ht : 1 ≤ tab) : levelF (wsFold (codesF ps ++ [32, 32])) tab = 2 + tab * (ps.map fun p => Int.fdiv p tab + 1).sum := by
  obtain ⟨h1, h2, h3⟩ := level_two h
  have hlen : (bumpsF ps []).length ≤ 12 := by
    have := bumps_len ps [] 12
    by_cases q : 12 < (bumpsF ps []).length
    · rcases this.mp q with a | ⟨p, hp, a⟩
      · simp at a
      · have := h p hp; omega
    · omega
  have hz : runF (fun i => ([] : List Int).getD i 0) tab 12 = 0 := by simp [runF]
  unfold levelF
  rw [h1, h2, h3, (ws_codes ps).1, ← il_more (bumpsF ps []) ht 12 (by omega), il_run, run_bumps12 ht ps [] h, hz, Int.zero_add, sum_plus]
  rfl
/-- the column falls by one step for each move -/
theorem level_fall {ps qs : List Int} (h : ∀ a ∈ qs, 0 ≤ a ∧ a < 12) {tab : Int} (ht : 1 ≤ tab) {k : Int} (hm : muF qs tab + k = muF ps tab) (hl : qs.length = ps.length) :
    levelF (wsFold (codesF qs ++ [32, 32])) tab = 2 + tab * (ps.map fun p => Int.fdiv p tab + 1).sum - tab * k := by
  unfold muF at hm
  have e : (fun p : Int => Int.fdiv p tab) = fun p => p / tab := funext fun p => Int.fdiv_eq_ediv_of_nonneg _ (by omega)
  rw [level12 h ht, sum_plus, sum_plus, hl, e, ← hm, Int.mul_add, Int.mul_add, Int.mul_add]
  omega
theorem move_rng {ps : List Int} {step c : Int} (h : ∀ a ∈ ps, 0 ≤ a ∧ a < 12) (hs : 1 ≤ step) : (∀ a ∈ (moveF ps step c).1, 0 ≤ a ∧ a < 12) ∧ (moveF ps step c).1.length ≤ ps.length := by
  by_cases e : ableF ps step = []
  · have : moveF ps step c = (ps, 0) := by unfold moveF; rw [if_pos e]
    rw [this]
    exact ⟨h, Nat.le_refl _⟩
  · exact ⟨(move_facts h hs e).1, (move_facts h hs e).2.1⟩
/-- both ways to settle -/
theorem both_ways {ps m1 m2 : List Int} {step c c' : Int} {n n' : Nat} (hr : ∀ a ∈ ps, 0 ≤ a ∧ a < 12) (hn : ps.Nodup) (hs : 1 ≤ step) (M : MovesTo step c (moveF ps step c).1 n m1) (E : ableF m1 step = []) (M' : MovesTo step c' (moveF ps step c').1 n' m2) (E' : ableF m2 step = []) :
    ∃ k : Nat, (k : Int) = (moveF ps step c).2 + n ∧ (moveF ps step c).2 + (n' : Int) = (moveF ps step c).2 + n ∧ MovesTo step c ps k m1 ∧ m1.Perm m2 := by
  obtain ⟨k, e, K⟩ := moves_start M
  obtain ⟨k', e', K'⟩ := moves_start M'
  obtain ⟨a, b⟩ := end_core hr hn hs K E
  obtain ⟨a', b'⟩ := end_core hr hn hs K' E'
  have := move_alike (ps := ps) (step := step) (c := c) (c' := c')
  exact ⟨k, e, by omega, K, a.trans a'.symm⟩
theorem cs_facts {ps : List Int} (h : ∀ a ∈ ps, 0 ≤ a ∧ a < 12) (hl : ps.length ≤ 4) : (wsFold (codesF ps ++ [32, 32])).cs.length ≤ 20 ∧ (wsFold (codesF ps ++ [32, 32])).b ≤ 100 ∧ (wsFold (codesF ps ++ [32, 32])).nt ≤ 100 ∧ ∀ a ∈ (wsFold (codesF ps ++ [32, 32])).cs, 0 ≤ a ∧ a ≤ 100 := by
  obtain ⟨h1, h2, h3⟩ := level_two h
  rw [h1, h2, h3, (ws_codes ps).1]
  refine ⟨?_, by decide, by omega, fun a ha => ?_⟩
  · have := bumps_len ps [] 20
    by_cases q : 20 < (bumpsF ps []).length
    · rcases this.mp q with a | ⟨p, hp, a⟩
      · simp at a
      · have := h p hp; omega
    · omega
  · obtain ⟨i, hi, rfl⟩ := List.mem_iff_getElem.mp ha
    have e := bumps_at ps [] i
    rw [List.getD_eq_getElem?_getD, List.getElem?_eq_getElem hi] at e
    simp only [Option.getD_some] at e
    have c : ps.countP (fun p => p.toNat == i) ≤ ps.length := List.countP_le_length
    rw [e]
    simp
    omega
theorem unpaid_ok9 {one two : Int} (h : PairF one two) : (unpaidF one two (one * two - 1).toNat).length ≤ 20 ∧ (unpaidF one two (one * two - 1).toNat).Pairwise (· ≤ ·) ∧ 1 ≤ one * two ∧ one * two ≤ 25 := by
  have hn : 1 ≤ one * two ∧ one * two ≤ 15 := by
    unfold PairF at h
    simp only [List.mem_cons, Prod.mk.injEq, List.not_mem_nil, or_false] at h
    rcases h with ⟨rfl, rfl⟩ | ⟨rfl, rfl⟩ | ⟨rfl, rfl⟩ | ⟨rfl, rfl⟩ | ⟨rfl, rfl⟩ | ⟨rfl, rfl⟩ | ⟨rfl, rfl⟩ | ⟨rfl, rfl⟩ <;> decide
  generalize one * two = n at hn
  refine ⟨?_, ?_, hn.1, by omega⟩
  · unfold unpaidF
    rw [List.length_map]
    have := List.length_filter_le (fun (k : Nat) => decide (paidF one two (1 + (k : Int)) = [])) (List.range (n - 1).toNat)
    rw [List.length_range] at this
    omega
  · unfold unpaidF
    rw [List.pairwise_map]
    refine List.Pairwise.imp ?_ (List.Pairwise.filter _ List.pairwise_lt_range)
    intro a b hab
    omega
theorem rows_len {os : List Int} : (rowsF os).length = os.length := by unfold rowsF; rw [List.length_map, List.length_range]
end Mine
open PySem PySem.W PySem.Calls PySem.Spec PyProof.Rows
namespace Mine
local macro_rules | `(tactic| walk_at $s:str) => `(tactic| k_extra $s)
local macro_rules | `(tactic| k_inst) => `(tactic| (refine' inst_base ?F ?a ?b; (case F => k_asm); (case a => assumption); (case b => assumption)))
theorem linesLawY : True := by
  w_top off
  k_with_none
  k_with "getMethod ref" => ((k_here; (with_reducible show wpAny _ _ (getMethod (Value.ref _) (Str.ofString "search") _) _ _ _); k_dflt (refine' search_meth (by k_asm) (by k_asm) (by k_is) ?_; k_whole)))
  k_with "call builtin:re.Pattern.search" => ((k_here; k_dflt (first
  | (refine' search_name (by k_asm) (by k_asm) (by k_is) (by k_is) (by decide +kernel) (by assumption) (by assumption) ?_; k_whole)
  | (refine' search_val (by k_asm) (by k_asm) (by k_is) (by k_is) (by decide +kernel) (by assumption) (by assumption) ?_; k_whole))))
  k_with "mine:le" => (exact Nat.le_of_ble_eq_true rfl)
  k_with "call builtin:str.lower" => ((k_here; (with_reducible show wpAny _ _ (call (Value.builtin "str.lower") [Value.str _ _]) _ _ _); k_dflt (refine' KXw.lower (by assumption) (by (exact low_fit (by assumption))) ?_; k_whole); intro t' k'))
  k_with "mine:moved" => (((rename Keep _ _ => kp9'); (with_reducible rename Fr _ _ _ _ => kF9); (with_reducible rename News _ _ _ _ => kN9); (replace kF9 := fr_keep kF9 kp9'); (replace kN9 := news_keep kN9 kp9'); (try dsimp only at kF9 kN9)))
  k_with "mine:movedN" => (((rename Keep _ _ => kp9'); (rename (Heap.get? _ _ = none) => hn9'); (rename (Heap.get? _ _ = some _) => hq9'); (with_reducible rename Fr _ _ _ _ => kF9); (with_reducible rename News _ _ _ _ => kN9); (replace kN9 := news_add kF9 (news_keep kN9 kp9') hn9' hq9'); (replace kF9 := fr_keep kF9 kp9'); (clear hn9' hq9'); (try dsimp only at kF9 kN9)))
  trivial
-- room for a contract at its place
-- a written text's lower case is named by a fact
-- behind a contract: the frame's and the ledger's facts at the new heap
-- behind a contract that made an object: its fact joins the ledger
/-- the law's body and scope, as the head holds them -/
noncomputable def lawX (P : Params) : { x : List Stmt × Scope // ∃ name qual params dV kV doc pm an cdv ct oc od osl, (Mine.KK P).lookup 354 = some ⟨oc, od, .func (fnOf name qual params x.1 x.2 dV kV doc pm an cdv ct), osl⟩ } :=
  ⟨(_, _), _, _, _, _, _, _, _, _, _, _, _, _, _, rfl⟩
/-- the loop's target and body -/
noncomputable def loopX (P : Params) : { x : Expr × List Stmt // ∃ it oe ps r, (lawX P).1.1.drop 17 = .For x.1 it x.2 oe ps :: r } := ⟨(_, _), _, _, _, _, rfl⟩
theorem linesConv : True := by
  w_top off
  k_with_none
  k_with "getMethod ref" => ((k_here; (with_reducible show wpAny _ _ (getMethod (Value.ref _) (Str.ofString "search") _) _ _ _); k_dflt (refine' search_meth (by k_asm) (by k_asm) (by k_is) ?_; k_whole)))
  k_with "call builtin:re.Pattern.search" => ((k_here; k_dflt (first
  | (refine' search_name (by k_asm) (by k_asm) (by k_is) (by k_is) (by decide +kernel) (by assumption) (by assumption) ?_; k_whole)
  | (refine' search_val (by k_asm) (by k_asm) (by k_is) (by k_is) (by decide +kernel) (by assumption) (by assumption) ?_; k_whole))))
  k_with "mine:le" => (exact Nat.le_of_ble_eq_true rfl)
  k_with "call builtin:str.lower" => ((k_here; (with_reducible show wpAny _ _ (call (Value.builtin "str.lower") [Value.str _ _]) _ _ _); k_dflt (refine' KXw.lower (by assumption) (by (exact low_fit (by assumption))) ?_; k_whole); intro t' k'))
  k_with "mine:moved" => (((rename Keep _ _ => kp9'); (with_reducible rename Fr _ _ _ _ => kF9); (with_reducible rename News _ _ _ _ => kN9); (replace kF9 := fr_keep kF9 kp9'); (replace kN9 := news_keep kN9 kp9'); (try dsimp only at kF9 kN9)))
  k_with "mine:movedN" => (((rename Keep _ _ => kp9'); (rename (Heap.get? _ _ = none) => hn9'); (rename (Heap.get? _ _ = some _) => hq9'); (with_reducible rename Fr _ _ _ _ => kF9); (with_reducible rename News _ _ _ _ => kN9); (replace kN9 := news_add kF9 (news_keep kN9 kp9') hn9' hq9'); (replace kF9 := fr_keep kF9 kp9'); (clear hn9' hq9'); (try dsimp only at kF9 kN9)))
  trivial
-- room for a contract at its place
-- a written text's lower case is named by a fact
-- behind a contract: the frame's and the ledger's facts at the new heap
-- behind a contract that made an object: its fact joins the ledger
set_option maxHeartbeats 1000000 in
theorem conv_ok (w : World) {p : Program} {loose : List Str} {mean : ExcName → Option Value} {mg mb : Str → Option Value} {env : Env} {outer : List Env} {A₀ : Around} {base h₀ : Heap} {L : Addr} {m : Str → Option Value} {s : Shared} {Q E : Value → Shared → Prop}
  (B : Below A₀ base outer h₀) (F : Fr h₀ L s.heap m) (X : (Mine.KK w.params).In h₀) (T : Top p loose mean mg mb h₀) (hf : env.frame = some L) (hke : env.scope.kind = .function)
  {self : Value} {v : Str} {t : Tok} {b : Bool} (hv : Fine v) (hl : v.length ≤ 1048576)
  (hret : ∀ h' tk', Keep s.heap h' → Q (.str v t) { s with heap := h', toks := tk' }) :
  wpAny (model PySem.Challenge.rw_tl0048_02.prog w) (Ar 360 600 env outer) (call (.ref 193) [self, .str v t] [(Str.ofString "name", .bool b)]) Q E s := by
  revert X; k_fill; intro X
  refine wpAny_call ?_
  k_dflt (refine' base_plain (binds := [(Str.ofString "self", self), (Str.ofString "value", .str v t), (Str.ofString "name", .bool b)]) ?k1 ?k2 ?k3 ?k5 ?kA ?kF ?kK ?k6 ?k7 ?k8 ?k9 ?kB ?_ ?c2 ?c3 ?c4 ?c5; (case kA => exact rfl); (case kF => assumption); (case kK => assumption); (case k1 => k_asm); (case k2 => k_asm); (case k3 => k_asm); (case k5 => k_asm); (case k6 => k_is); (case k7 => k_is); (case k8 => exact Nat.le_of_ble_eq_true rfl); (case k9 => first | exact BindsTo.of_eq rfl | exact binds_K (by k_in) rfl (by k_is) rfl rfl rfl); (case c5 => decide); (case kB => exact locs rfl); (case c2 => exact rfl); (case c3 => exact rfl); (case c4 => exact rfl))
  intro L' h' F' B' X' T'
  have N' : News s.heap L' h' [] := News.nil
  clear B F X T
  (try dsimp only [List.reverse, List.reverseAux] at F')
  change wpAny _ _ _ _ _ _
  k_fold
  k_steps
  all_goals (exact hret _ _ (Fr.keep (by k_asm)))
theorem linesWsnew : True := by
  w_top off
  k_with_none
  k_with "getMethod ref" => ((k_here; (with_reducible show wpAny _ _ (getMethod (Value.ref _) (Str.ofString "search") _) _ _ _); k_dflt (refine' search_meth (by k_asm) (by k_asm) (by k_is) ?_; k_whole)))
  k_with "call builtin:re.Pattern.search" => ((k_here; k_dflt (first
  | (refine' search_name (by k_asm) (by k_asm) (by k_is) (by k_is) (by decide +kernel) (by assumption) (by assumption) ?_; k_whole)
  | (refine' search_val (by k_asm) (by k_asm) (by k_is) (by k_is) (by decide +kernel) (by assumption) (by assumption) ?_; k_whole))))
  k_with "mine:le" => (exact Nat.le_of_ble_eq_true rfl)
  k_with "call builtin:str.lower" => ((k_here; (with_reducible show wpAny _ _ (call (Value.builtin "str.lower") [Value.str _ _]) _ _ _); k_dflt (refine' KXw.lower (by assumption) (by (exact low_fit (by assumption))) ?_; k_whole); intro t' k'))
  k_with "mine:moved" => (((rename Keep _ _ => kp9'); (with_reducible rename Fr _ _ _ _ => kF9); (with_reducible rename News _ _ _ _ => kN9); (replace kF9 := fr_keep kF9 kp9'); (replace kN9 := news_keep kN9 kp9'); (try dsimp only at kF9 kN9)))
  k_with "mine:movedN" => (((rename Keep _ _ => kp9'); (rename (Heap.get? _ _ = none) => hn9'); (rename (Heap.get? _ _ = some _) => hq9'); (with_reducible rename Fr _ _ _ _ => kF9); (with_reducible rename News _ _ _ _ => kN9); (replace kN9 := news_add kF9 (news_keep kN9 kp9') hn9' hq9'); (replace kF9 := fr_keep kF9 kp9'); (clear hn9' hq9'); (try dsimp only at kF9 kN9)))
  k_with "exec For Name Attribute cons nil" => ((k_here; (with_reducible rename Fr _ _ _ _ => kF9); k_dflt (refine' For_textF kF9 (by exact rfl) ?_; k_whole)))
  k_with "newTuple" => ((k_here; k_dflt (refine' kup_newTuple (by k_asm) (by k_asm) ?_ (by kmk_size)); intro D' h' F' N' l1; (try k_lt l1)))
  k_with "call type:tuple" => ((k_here; (with_reducible show wpAny _ _ (call (Value.type _) [Value.ref _]) _ _ _); k_dflt (refine' kde_tupleOf (by k_asm) (by k_asm) (by exact News.isList (by k_asm) (by k_mem)) (by (rw [List.size_toArray]; assumption)) (by exact rfl) ?_; k_whole); intro D' h' F' N' l1; (try k_lt l1)))
  trivial
-- room for a contract at its place
-- a written text's lower case is named by a fact
-- behind a contract: the frame's and the ledger's facts at the new heap
-- behind a contract that made an object: its fact joins the ledger
theorem ws_shape0 {m m0 : Str → Option Value} {a b c d : Value} (hm : m = fun y => if y = Str.ofString "nt" then some a else if y = Str.ofString "n" then some b else if y = Str.ofString "b" then some c else if y = Str.ofString "count" then some d else m0 y) :
    m = fun y => if y = Str.ofString "count" then some d else if y = Str.ofString "b" then some c else if y = Str.ofString "n" then some b else if y = Str.ofString "nt" then some a else over [Str.ofString "ch"] m m y := by
  funext y
  have hm' := congrFun hm y
  by_cases h1 : y = Str.ofString "nt"
  · subst h1; exact hm'
  by_cases h2 : y = Str.ofString "n"
  · subst h2; exact hm'
  by_cases h3 : y = Str.ofString "b"
  · subst h3; exact hm'
  by_cases h4 : y = Str.ofString "count"
  · subst h4; exact hm'
  simp only [if_neg h1, if_neg h2, if_neg h3, if_neg h4]
  unfold over
  split <;> rfl
theorem ws_shape1 {m1 m f : Str → Option Value} {vb vn vc vl vb1 vn2 vt : Value} (hm : m1 = fun y => if y = Str.ofString "b" then some vb else if y = Str.ofString "n" then some vn else if y = Str.ofString "ch" then some vc else if y = Str.ofString "count" then some vl else if y = Str.ofString "b" then some vb1 else if y = Str.ofString "n" then some vn2 else if y = Str.ofString "nt" then some vt else over [Str.ofString "ch"] f m y) :
    m1 = fun y => if y = Str.ofString "count" then some vl else if y = Str.ofString "b" then some vb else if y = Str.ofString "n" then some vn else if y = Str.ofString "nt" then some vt else over [Str.ofString "ch"] (fun _ => some vc) m y := by
  subst hm
  funext y
  by_cases h0 : y = Str.ofString "count"
  · subst h0; rfl
  by_cases h1 : y = Str.ofString "b"
  · subst h1; rfl
  by_cases h2 : y = Str.ofString "n"
  · subst h2; rfl
  by_cases h3 : y = Str.ofString "nt"
  · subst h3; rfl
  by_cases h4 : y = Str.ofString "ch"
  · subst h4; rfl
  simp only [if_neg h0, if_neg h1, if_neg h2, if_neg h3, if_neg h4]
  have hc : [Str.ofString "ch"].contains y = false := by simpa using h4
  rw [over_off hc, over_off hc]
theorem ws_shape2 {m1 m f : Str → Option Value} {vb vl vt vn vc vl1 vb2 vn3 vt4 : Value} (hm : m1 = fun y => if y = Str.ofString "b" then some vb else if y = Str.ofString "count" then some vl else if y = Str.ofString "nt" then some vt else if y = Str.ofString "n" then some vn else if y = Str.ofString "ch" then some vc else if y = Str.ofString "count" then some vl1 else if y = Str.ofString "b" then some vb2 else if y = Str.ofString "n" then some vn3 else if y = Str.ofString "nt" then some vt4 else over [Str.ofString "ch"] f m y) :
    m1 = fun y => if y = Str.ofString "count" then some vl else if y = Str.ofString "b" then some vb else if y = Str.ofString "n" then some vn else if y = Str.ofString "nt" then some vt else over [Str.ofString "ch"] (fun _ => some vc) m y := by
  subst hm
  funext y
  by_cases h0 : y = Str.ofString "count"
  · subst h0; rfl
  by_cases h1 : y = Str.ofString "b"
  · subst h1; rfl
  by_cases h2 : y = Str.ofString "n"
  · subst h2; rfl
  by_cases h3 : y = Str.ofString "nt"
  · subst h3; rfl
  by_cases h4 : y = Str.ofString "ch"
  · subst h4; rfl
  simp only [if_neg h0, if_neg h1, if_neg h2, if_neg h3, if_neg h4]
  have hc : [Str.ofString "ch"].contains y = false := by simpa using h4
  rw [over_off hc, over_off hc]
theorem ws_shape3 {m1 m f : Str → Option Value} {vb vt vn vc vl vb1 vn2 vt3 : Value} (hm : m1 = fun y => if y = Str.ofString "b" then some vb else if y = Str.ofString "nt" then some vt else if y = Str.ofString "n" then some vn else if y = Str.ofString "ch" then some vc else if y = Str.ofString "count" then some vl else if y = Str.ofString "b" then some vb1 else if y = Str.ofString "n" then some vn2 else if y = Str.ofString "nt" then some vt3 else over [Str.ofString "ch"] f m y) :
    m1 = fun y => if y = Str.ofString "count" then some vl else if y = Str.ofString "b" then some vb else if y = Str.ofString "n" then some vn else if y = Str.ofString "nt" then some vt else over [Str.ofString "ch"] (fun _ => some vc) m y := by
  subst hm
  funext y
  by_cases h0 : y = Str.ofString "count"
  · subst h0; rfl
  by_cases h1 : y = Str.ofString "b"
  · subst h1; rfl
  by_cases h2 : y = Str.ofString "n"
  · subst h2; rfl
  by_cases h3 : y = Str.ofString "nt"
  · subst h3; rfl
  by_cases h4 : y = Str.ofString "ch"
  · subst h4; rfl
  simp only [if_neg h0, if_neg h1, if_neg h2, if_neg h3, if_neg h4]
  have hc : [Str.ofString "ch"].contains y = false := by simpa using h4
  rw [over_off hc, over_off hc]
theorem ws9 {cs : List Int} {b n nt : Nat} : wsStep ⟨cs, b, n, nt⟩ 9 = ⟨bumpF cs b, 0, n + 1, nt + 1⟩ := rfl
theorem bump_in {cs : List Int} {b : Nat} (h : b < cs.length) : bumpF cs b = cs.set b (cs.getD b 0 + 1) := by
  unfold bumpF
  rw [show b + 1 - cs.length = 0 from by omega]
  simp
theorem bump_out {cs : List Int} {b : Nat} (h : cs.length ≤ b) : bumpF cs b = (cs ++ (List.replicate ((b : Int) - cs.length + 1).toNat [(0 : Int)]).flatten).set b ((cs ++ (List.replicate ((b : Int) - cs.length + 1).toNat [(0 : Int)]).flatten).getD b 0 + 1) := by
  unfold bumpF
  rw [List.flatten_replicate_singleton, show ((b : Int) - cs.length + 1).toNat = b + 1 - cs.length from by omega]
theorem news_pick {h₀ h : Heap} {L : Addr} {a b c g e : Addr × Obj} {rest : List (Addr × Obj)} (N : News h₀ L h (a :: b :: c :: g :: e :: rest)) : News h₀ L h (g :: a :: rest) := fun p hp => by
  rcases List.mem_cons.mp hp with rfl | hp
  · exact N _ (.tail _ (.tail _ (.tail _ (.head _))))
  rcases List.mem_cons.mp hp with rfl | hp
  · exact N _ (.head _)
  · exact N _ (.tail _ (.tail _ (.tail _ (.tail _ (.tail _ hp)))))
theorem news_drop2 {h₀ h : Heap} {L : Addr} {a b : Addr × Obj} {rest : List (Addr × Obj)} (N : News h₀ L h (a :: b :: rest)) : News h₀ L h (a :: rest) := fun p hp => by
  rcases List.mem_cons.mp hp with rfl | hp
  · exact N _ (.head _)
  · exact N _ (.tail _ (.tail _ hp))

theorem ws_news {h₀ h : Heap} {L : Addr} {a1 a2 lc a3 a4 : Addr × Obj} {rest : List (Addr × Obj)} (N : News h₀ L h (a1 :: a2 :: lc :: a3 :: a4 :: rest)) : News h₀ L h [a3, a4, a1, a2] := fun p hp => N p (by
  simp only [List.mem_cons, List.not_mem_nil, or_false] at hp ⊢
  rcases hp with rfl | rfl | rfl | rfl <;> simp)
/-- the lead's body and scope -/
noncomputable def leadX (P : Params) : { x : List Stmt × Scope // ∃ name qual params dV kV doc pm an cdv ct oc od osl, (Mine.KK P).lookup 334 = some ⟨oc, od, .func (fnOf name qual params x.1 x.2 dV kV doc pm an cdv ct), osl⟩ } :=
  ⟨(_, _), _, _, _, _, _, _, _, _, _, _, _, _, _, rfl⟩
set_option maxHeartbeats 8000000 in
theorem wsn_ok (w : World) {p : Program} {loose : List Str} {mean : ExcName → Option Value} {mg mb : Str → Option Value} {outer : List Env} {fa : Addr} {cdv : Value} {A₀ : Around} {base h₀ : Heap} {L : Addr} {m : Str → Option Value} {s : Shared} {Q E : Value → Shared → Prop}
  (B : Below A₀ base outer h₀) (F : Fr h₀ L s.heap m) (X : (Mine.KK w.params).In h₀) (T : Top p loose mean mg mb h₀) 
  {tx : Str} {t : Tok} {cd : List Nat} (hcp : tx.cps.toList = cd) (hcm0 : ∀ c ∈ cd, c = 32 ∨ c = 9) (hcl0 : cd.length ≤ 72)
  (hret : ∀ x d D1 D2 k1 k2 k3 k4 k5 tn tt tb rv sv vs h' tk', Fr h₀ L h' m → News h₀ L h' (wsL 100 w.params x d D1 D2 k1 k2 k3 k4 k5 rv (.int (wsFold cd).n tn) (.int (wsFold cd).nt tt) (.int (wsFold cd).b tb) sv vs) → IntsAre vs (wsFold cd).cs → Q (.ref x) { s with heap := h', toks := tk' }) :
  wpAny (model PySem.Challenge.rw_tl0048_02.prog w) (Ar 325 210 (envOf (Str.ofString "_law_lead") (leadX w.params).1.2 L fa cdv) outer) (call (.ref 100) [.str tx t]) Q E s := by
  revert X; k_fill; intro X
  have N : News h₀ L s.heap [] := News.nil
  dsimp only [leadX]
  k_steps
  (with_reducible rename Fr _ _ _ _ => kF9); (with_reducible rename News _ _ _ _ => kN9)
  refine text_pack (fun m news i m₁ news₁ => ∃ lc nC vs tb tn tt f, (news.headD (0, lstO [] 0)).1 ≤ lc ∧ news₁ = (lc, lstO vs nC) :: news.tail ∧ IntsAre vs (wsFold ((cd).take i)).cs ∧ m₁ = fun y => if y = Str.ofString "count" then some (.ref lc) else if y = Str.ofString "b" then some (.int (wsFold ((cd).take i)).b tb) else if y = Str.ofString "n" then some (.int (wsFold ((cd).take i)).n tn) else if y = Str.ofString "nt" then some (.int (wsFold ((cd).take i)).nt tt) else over [Str.ofString "ch"] f m y)
    (all_of _ (by rw [hcp]; exact hcm0)) kF9 kN9 ⟨_, _, [], _, _, _, _, Nat.le_refl _, rfl, IntsAre.nil, ws_shape0 rfl⟩ ?_ ?_
  · rintro i c tv m₁ news₁ h₁ tk₁ I oI hi' ⟨lc, nC, vs, tb, tn, tt, f, hlc, rfl, hia, rfl⟩ F₁ N₁ hI
    have hIl := hI _ (.head _)
    simp only [List.headD_cons] at hlc
    simp only [] at hIl
    have hlc3 := Nat.lt_succ_of_le hlc
    have hIl3 := Nat.lt_or_gt_of_ne hIl
    dsimp only [List.tail] at N₁ hI
    have hc : (cd)[i]? = some c := by rw [← hcp]; simpa using hi'
    have hst := ws_take hc
    have hok := ws_ok ((cd).take i)
    have hcm := hcm0 _ (List.mem_of_getElem? hc)
    have hil : i < (cd).length := (List.getElem?_eq_some_iff.mp hc).1
    have hcl := hcl0
    rw [List.length_take, Nat.min_eq_left (Nat.le_of_lt hil)] at hok
    generalize wsFold ((cd).take (i + 1)) = st2 at *
    generalize wsFold ((cd).take i) = st at *
    obtain ⟨cs, b, n, nt⟩ := st
    obtain ⟨hk1, hk2, hk3, hk4⟩ := hok
    dsimp only at hk1 hk2 hk3 hk4 F₁ hia
    subst hst
    clear kF9 kN9
    rcases hcm with rfl | rfl
    · k_steps
      (rename Fr _ _ _ _ => kF7); (rename News _ _ _ _ => kN7)
      exact ⟨_, _, _, _, rfl, kF7, kN7, hI, lc, nC, vs, _, _, _, _, hlc, rfl, hia, ws_shape1 rfl⟩
    · k_steps
      · (rename Fr _ _ _ _ => kF7); (rename News _ _ _ _ => kN7); (with_reducible rename IntsAre _ _ => kI7)
        have hb : cs.length ≤ b := by omega
        rw [Int.toNat_natCast, ← bump_out hb] at kI7
        exact ⟨_, _, _, _, rfl, kF7, news_pick kN7, List.forall_mem_cons.mpr ⟨Nat.ne_of_gt (by omega), fun p hp => hI p (.tail _ hp)⟩, _, _, _, _, _, _, _, Nat.le_trans hlc (Nat.le_of_lt (by omega)), rfl, kI7, ws_shape2 rfl⟩
      · (rename Fr _ _ _ _ => kF7); (rename News _ _ _ _ => kN7); (with_reducible rename IntsAre _ _ => kI7)
        have hb : b < cs.length := by omega
        rw [Int.toNat_natCast, ← bump_in hb] at kI7
        exact ⟨_, _, _, _, rfl, kF7, kN7, fun p hp => (List.mem_cons.mp hp).elim (fun e => e ▸ hIl) (fun hp => hI p (.tail _ hp)), lc, _, _, _, _, _, _, hlc, rfl, kI7, ws_shape3 rfl⟩
  · rintro m₁ news₁ h₁ tk₁ ⟨lc, nC, vs, tb, tn, tt, f, hlc, rfl, hia, rfl⟩ F₁ N₁
    have hsz : (tx).cps.size = (cd).length := by rw [← hcp, Array.length_toList]
    have hst : wsFold (List.take (tx).cps.size (cd)) = wsFold (cd) := by rw [hsz, List.take_length]
    rw [hst] at F₁ hia
    have hok := ws_ok (cd)
    have hcl := hcl0
    simp only [List.headD_cons] at hlc
    have hlc3 := Nat.lt_succ_of_le hlc
    dsimp only [List.tail] at N₁
    replace N₁ := news_drop2 N₁
    generalize wsFold (cd) = st at *
    obtain ⟨cs, b, n, nt⟩ := st
    obtain ⟨hk1, hk2, hk3, hk4⟩ := hok
    dsimp only at hk1 hk2 hk3 hk4 F₁ hia hret
    have hvl : vs.length ≤ 16384 := by rw [hia.length]; omega
    clear kF9 kN9
    k_steps
    (rename Fr _ _ _ _ => kF7); (rename News _ _ _ _ => kN7)
    exact hret _ _ _ _ _ _ _ _ _ _ _ _ _ _ _ _ _ kF7 (ws_news kN7) hia
theorem linesLead2 : True := by
  w_top off
  k_with_none
  k_with "getMethod ref" => ((k_here; (with_reducible show wpAny _ _ (getMethod (Value.ref _) (Str.ofString "search") _) _ _ _); k_dflt (refine' search_meth (by k_asm) (by k_asm) (by k_is) ?_; k_whole)))
  k_with "call builtin:re.Pattern.search" => ((k_here; k_dflt (first
  | (refine' search_name (by k_asm) (by k_asm) (by k_is) (by k_is) (by decide +kernel) (by assumption) (by assumption) ?_; k_whole)
  | (refine' search_val (by k_asm) (by k_asm) (by k_is) (by k_is) (by decide +kernel) (by assumption) (by assumption) ?_; k_whole))))
  k_with "mine:le" => (exact Nat.le_of_ble_eq_true rfl)
  k_with "call builtin:str.lower" => ((k_here; (with_reducible show wpAny _ _ (call (Value.builtin "str.lower") [Value.str _ _]) _ _ _); k_dflt (refine' KXw.lower (by assumption) (by (exact low_fit (by assumption))) ?_; k_whole); intro t' k'))
  k_with "mine:moved" => (((rename Keep _ _ => kp9'); (with_reducible rename Fr _ _ _ _ => kF9); (with_reducible rename News _ _ _ _ => kN9); (replace kF9 := fr_keep kF9 kp9'); (replace kN9 := news_keep kN9 kp9'); (try dsimp only at kF9 kN9)))
  k_with "mine:movedN" => (((rename Keep _ _ => kp9'); (rename (Heap.get? _ _ = none) => hn9'); (rename (Heap.get? _ _ = some _) => hq9'); (with_reducible rename Fr _ _ _ _ => kF9); (with_reducible rename News _ _ _ _ => kN9); (replace kN9 := news_add kF9 (news_keep kN9 kp9') hn9' hq9'); (replace kF9 := fr_keep kF9 kp9'); (clear hn9' hq9'); (try dsimp only at kF9 kN9)))
  k_with "mine:one" => ((first | (k_unfold; (try dsimp only)) | (k_end; wrow_close) | walk1 | (dsimp only; walk1)))
  k_with "binaryOp Mult str int" => ((k_here; (rename (_ ∈ _) => hm9); (obtain ⟨hm7, hm8⟩ := SmallP.at (by assumption) hm9); clear hm9; walk_at "binaryOp Mult str int"))
  k_with "call builtin:str.join" => ((k_here; (with_reducible rename CarriedAll _ _ => hc9); k_dflt (refine' lead_join (by assumption) hc9 (by assumption) (by assumption) ?_; k_whole); intro t' k'))
  k_with "call ref" => ((k_here; (with_reducible show wpAny _ _ (call (Value.ref 100) [Value.str _ _]) _ _ _); k_dflt (refine' at_le (by exact rfl) (by exact rfl) (by walk_at "mine:le") (by walk_at "mine:le") (wsn_ok _ (by k_asm) (by k_asm) (by k_asm) (by k_asm) (by assumption) (by assumption) (by assumption) ?_); k_whole); intro x9 d9 D19 D29 k19 k29 k39 k49 k59 tn9 tt9 tb9 rv9 sv9 vs9 h9 tk9 kF9 kN9 hi9))
  trivial
-- room for a contract at its place
-- a written text's lower case is named by a fact
-- behind a contract: the frame's and the ledger's facts at the new heap
-- behind a contract that made an object: its fact joins the ledger
theorem lead_join {prog : Program} {w : World} {A : Around} {E : Value → Shared → Prop} {s : Shared} {t : Tok} {Q : Value → Shared → Prop} {D : Addr} {ys : List Value} {ps : List Int} (hl : s.heap.IsList D ys.toArray)
    (hc : CarriedAll ys (List.map (fun a => PyData.str (Txt.mul (Str.ofString " ") a ++ Str.ofString "\t")) (List.filter (fun a => true) ps))) (hp : SmallP ps) (hn : ps.length ≤ 6)
    (h : ∀ t' k, Q (.str (leadT ps) t') { s with toks := k }) : wpAny (model prog w) A (call (.builtin "str.join") [.str (Str.ofString "") t, .ref D]) Q E s := by
  refine join_list hl (ys := ps.map pieceF) (StrsAre.of_carried ?_) ?_ h
  · rw [List.map_map]
    rw [List.filter_eq_self.mpr (by simp)] at hc
    exact hc
  · have h1 := sumLen_le_of_bound pieceF 12 ps fun a ha => piece_len (hp.at ha).1 (hp.at ha).2
    rw [show (Str.ofString "").length = 0 from rfl]
    simp only [Nat.mul_zero, Nat.add_zero]
    omega

theorem lead2_cps {ps : List Int} (hp : SmallP ps) : (leadT ps ++ Str.ofString "  ").cps.toList = codesF ps ++ [32, 32] := by
  have h := lead_cps hp
  have e : (leadT ps ++ Str.ofString "  ").cps.toList = (leadT ps).cps.toList ++ (Str.ofString "  ").cps.toList := by
    show ((leadT ps).cps ++ (Str.ofString "  ").cps).toList = _
    rw [Array.toList_append]
  rw [e, h]
  congr 1
set_option maxHeartbeats 8000000 in
theorem lead2_ok (w : World) {p : Program} {loose : List Str} {mean : ExcName → Option Value} {mg mb : Str → Option Value} {env : Env} {outer : List Env} {A₀ : Around} {base h₀ : Heap} {L : Addr} {m : Str → Option Value} {s : Shared} {Q E : Value → Shared → Prop}
  (B : Below A₀ base outer h₀) (F : Fr h₀ L s.heap m) (X : (Mine.KK w.params).In h₀) (T : Top p loose mean mg mb h₀) (hf : env.frame = some L) (hke : env.scope.kind = .function)
  {lp : Addr} {nP : Nat} {vs : List Value} {ps : List Int} (hlp : s.heap.get? lp = some (lstO vs nP)) (hi : IntsAre vs ps) (hlen : ps.length ≤ 4) (hp : SmallP ps)
  (hret : ∀ x d D1 D2 k1 k2 k3 k4 k5 tn tt tb rv sv vs h' tk', Keep s.heap h' → (∀ p ∈ wsL 100 w.params x d D1 D2 k1 k2 k3 k4 k5 rv (.int (wsFold (codesF ps ++ [32, 32])).n tn) (.int (wsFold (codesF ps ++ [32, 32])).nt tt) (.int (wsFold (codesF ps ++ [32, 32])).b tb) sv vs, h'.get? p.1 = some p.2 ∧ s.heap.get? p.1 = none) → IntsAre vs (wsFold (codesF ps ++ [32, 32])).cs → Q (.ref x) { s with heap := h', toks := tk' }) :
  wpAny (model PySem.Challenge.rw_tl0048_02.prog w) (Ar 320 200 env outer) (call (.ref 334) [.ref lp]) Q E s := by
  revert X; k_fill; intro X
  refine wpAny_call ?_
  k_dflt (refine' base_plain (binds := [(Str.ofString "ports", .ref lp)]) ?k1 ?k2 ?k3 ?k5 ?kA ?kF ?kK ?k6 ?k7 ?k8 ?k9 ?kB ?_ ?c2 ?c3 ?c4 ?c5; (case kA => exact rfl); (case kF => assumption); (case kK => assumption); (case k1 => k_asm); (case k2 => k_asm); (case k3 => k_asm); (case k5 => k_asm); (case k6 => k_is); (case k7 => k_is); (case k8 => exact Nat.le_of_ble_eq_true rfl); (case k9 => first | exact BindsTo.of_eq rfl | exact binds_K (by k_in) rfl (by k_is) rfl rfl rfl); (case c5 => decide); (case kB => exact locs rfl); (case c2 => exact rfl); (case c3 => exact rfl); (case c4 => exact rfl))
  intro L' h' F' B' X' T'
  have N' : News s.heap L' h' [] := News.nil
  clear B F X T
  (try dsimp only [List.reverse, List.reverseAux] at F')
  change wpAny _ _ _ _ _ _
  k_fold
  have hl : s.heap.IsList lp vs.toArray := ⟨_, hlp, rfl, _, rfl⟩
  have hlen6 : ps.length ≤ 6 := by omega
  have hll := lead_len hp hlen6
  have hcp := lead2_cps hp
  have hcm : ∀ c ∈ codesF ps ++ [32, 32], c = 32 ∨ c = 9 := fun c hc => by
    rcases List.mem_append.mp hc with hc | hc
    · exact codes_mem hc
    · exact .inl (by simpa using hc)
  have hcl : (codesF ps ++ [32, 32]).length ≤ 72 := by have := codes_len hp; rw [List.length_append]; simp only [List.length_cons, List.length_nil]; omega
  k_steps
  (rename Fr _ _ _ _ => kF5); (rename News _ _ _ _ => kN5); (rename IntsAre _ _ => hi5)
  exact hret _ _ _ _ _ _ _ _ _ _ _ _ _ _ _ _ _ kF5.keep (fun p hp => ⟨(kN5 p hp).1, (kN5 p hp).2.2⟩) hi5
theorem linesGet : True := by
  w_top off
  k_with_none
  k_with "getMethod ref" => ((k_here; (with_reducible show wpAny _ _ (getMethod (Value.ref _) (Str.ofString "search") _) _ _ _); k_dflt (refine' search_meth (by k_asm) (by k_asm) (by k_is) ?_; k_whole)))
  k_with "call builtin:re.Pattern.search" => ((k_here; k_dflt (first
  | (refine' search_name (by k_asm) (by k_asm) (by k_is) (by k_is) (by decide +kernel) (by assumption) (by assumption) ?_; k_whole)
  | (refine' search_val (by k_asm) (by k_asm) (by k_is) (by k_is) (by decide +kernel) (by assumption) (by assumption) ?_; k_whole))))
  k_with "mine:le" => (exact Nat.le_of_ble_eq_true rfl)
  k_with "call builtin:str.lower" => ((k_here; (with_reducible show wpAny _ _ (call (Value.builtin "str.lower") [Value.str _ _]) _ _ _); k_dflt (refine' KXw.lower (by assumption) (by (exact low_fit (by assumption))) ?_; k_whole); intro t' k'))
  k_with "mine:moved" => (((rename Keep _ _ => kp9'); (with_reducible rename Fr _ _ _ _ => kF9); (with_reducible rename News _ _ _ _ => kN9); (replace kF9 := fr_keep kF9 kp9'); (replace kN9 := news_keep kN9 kp9'); (try dsimp only at kF9 kN9)))
  k_with "mine:movedN" => (((rename Keep _ _ => kp9'); (rename (Heap.get? _ _ = none) => hn9'); (rename (Heap.get? _ _ = some _) => hq9'); (with_reducible rename Fr _ _ _ _ => kF9); (with_reducible rename News _ _ _ _ => kN9); (replace kN9 := news_add kF9 (news_keep kN9 kp9') hn9' hq9'); (replace kF9 := fr_keep kF9 kp9'); (clear hn9' hq9'); (try dsimp only at kF9 kN9)))
  k_with "call ref" => ((k_here; (with_reducible show wpAny _ _ (call (Value.ref 193) _ _) _ _ _); k_dflt (refine' at_le (by exact rfl) (by exact rfl) (by walk_at "mine:le") (by walk_at "mine:le") (conv_ok _ (by k_asm) (by k_asm) (by k_asm) (by k_asm) (by exact rfl) (by exact rfl) (by assumption) (by first | assumption | omega) ?_); k_whole); intro h9 tk9 kp9; walk_at "mine:moved"))
  trivial
-- room for a contract at its place
-- a written text's lower case is named by a fact
-- behind a contract: the frame's and the ledger's facts at the new heap
-- behind a contract that made an object: its fact joins the ledger


set_option maxHeartbeats 2000000 in
theorem get_ok (w : World) {p : Program} {loose : List Str} {mean : ExcName → Option Value} {mg mb : Str → Option Value} {env : Env} {outer : List Env} {A₀ : Around} {base h₀ : Heap} {L : Addr} {m : Str → Option Value} {s : Shared} {Q E : Value → Shared → Prop}
  (B : Below A₀ base outer h₀) (F : Fr h₀ L s.heap m) (X : (Mine.KK w.params).In h₀) (T : Top p loose mean mg mb h₀) (hf : env.frame = some L) (hke : env.scope.kind = .function)
  {x d l : Addr} {tk0 : Tok} {nL : Nat} {items : List Value} {es : List (Str × Str)} {nm q : Str} {t : Tok}
  (hx : s.heap.get? x = some (instObj 294 d)) (hd : s.heap.get? d = some (dictOf [{ hash := PyData.keyHash w.params (Str.ofString "_headers"), key := .str (Str.ofString "_headers") tk0, val := .ref l }] 1))
  (hlst : s.heap.get? l = some (lstO items nL)) (ht : Tups s.heap items es) (hlow : Txt.lower nm = q) (hq : Fine q) (hnl : nm.length ≤ 1000) (hql : q.length ≤ 1048576) (hes : ∀ e ∈ es, e.1.length ≤ 1000)
  (hret : ∀ r h' tk', GetRes es q r → Keep s.heap h' → Q r { s with heap := h', toks := tk' }) :
  wpAny (model PySem.Challenge.rw_tl0048_02.prog w) (Ar 350 500 env outer) (call (.ref 241) [.ref x, .str nm t]) Q E s := by
  revert X; k_fill; intro X
  refine wpAny_call ?_
  k_dflt (refine' base_plain (binds := [(Str.ofString "self", .ref x), (Str.ofString "name", .str nm t), (Str.ofString "default", .none)]) ?k1 ?k2 ?k3 ?k5 ?kA ?kF ?kK ?k6 ?k7 ?k8 ?k9 ?kB ?_ ?c2 ?c3 ?c4 ?c5; (case kA => exact rfl); (case kF => assumption); (case kK => assumption); (case k1 => k_asm); (case k2 => k_asm); (case k3 => k_asm); (case k5 => k_asm); (case k6 => k_is); (case k7 => k_is); (case k8 => exact Nat.le_of_ble_eq_true rfl); (case k9 => first | exact BindsTo.of_eq rfl | exact binds_K (by k_in) rfl (by k_is) rfl rfl rfl); (case c5 => decide); (case kB => exact locs rfl); (case c2 => exact rfl); (case c3 => exact rfl); (case c4 => exact rfl))
  intro L' h' F' B' X' T'
  have N' : News s.heap L' h' [] := News.nil
  clear B F X T
  (try dsimp only [List.reverse, List.reverseAux] at F')
  change wpAny _ _ _ _ _ _
  k_fold
  k_steps
  refine For_list s.heap L' rfl ?_
  k_steps
  refine list_pack (fun m nw i m₁ news₁ => news₁ = [] ∧ But2 (Str.ofString "k") (Str.ofString "v") m m₁ ∧ ∀ j e', j < i → es[j]? = some e' → Txt.lower e'.1 ≠ q) (by k_asm) (by k_asm) ⟨_, Fr.keep (by k_asm) _ _ hlst, rfl, _, rfl⟩ (go_tuple (by simpa using Tups.refs ht)) ⟨rfl, But2.refl, fun j e' h => absurd h (Nat.not_lt_zero _)⟩ ?_ ?_ ?_
  · intro i m₁ news₁ h₁ hJ F₁ N₁
    exact ⟨_, F₁.keep _ _ hlst, rfl, _, rfl⟩
  · rintro i v m₁ news₁ h₁ tk₁ I oI hi ⟨rfl, hB2, hno⟩ F₁ N₁ hI
    obtain ⟨e, r, ta, tb, he, rfl, hr⟩ := Tups.at ht (by simpa using hi)
    refine pair_assign F₁ N₁ ⟨_, F₁.keep _ _ hr, rfl, _, rfl⟩ rfl rfl rfl rfl fun h₂ tk₂ F₂ N₂ => ?_
    rw [hB2.put] at F₂
    clear F₁ N₁
    have hel := hes e (List.mem_of_getElem? he)
    generalize hlo : Txt.lower e.1 = elo at *
    k_steps
    · exact hret _ _ _ (getRes_hit hno he (by simp_all)) (Fr.keep (by k_asm))
    · exact ⟨_, _, _, [], rfl, by k_asm, by k_asm, (fun _ h => nomatch h), rfl, ⟨_, _, rfl⟩, fun j e' hj hje => by
        rcases Nat.lt_succ_iff_lt_or_eq.mp hj with hj | rfl
        · exact hno j e' hj hje
        · rw [he] at hje; cases hje; rw [hlo]; exact beq_eq_false_iff_ne.mp (by assumption)⟩
  · rintro m₁ news₁ h₁ tk₁ ⟨rfl, ⟨u1, u2, rfl⟩, hno⟩ F₁ N₁
    dsimp only
    k_steps
    refine hret _ _ _ (getRes_none fun j e' hj hje => hno j e' ?_ hje) (Fr.keep (by k_asm))
    rw [List.size_toArray, Tups.length ht]; exact hj
theorem linesParse : True := by
  w_top off
  k_with_none
  k_with "getMethod ref" => ((k_here; (with_reducible show wpAny _ _ (getMethod (Value.ref _) (Str.ofString "search") _) _ _ _); k_dflt (refine' search_meth (by k_asm) (by k_asm) (by k_is) ?_; k_whole)))
  k_with "call builtin:re.Pattern.search" => ((k_here; k_dflt (first
  | (refine' search_name (by k_asm) (by k_asm) (by k_is) (by k_is) (by decide +kernel) (by assumption) (by assumption) ?_; k_whole)
  | (refine' search_val (by k_asm) (by k_asm) (by k_is) (by k_is) (by decide +kernel) (by assumption) (by assumption) ?_; k_whole))))
  k_with "mine:le" => (exact Nat.le_of_ble_eq_true rfl)
  k_with "call builtin:str.lower" => ((k_here; (with_reducible show wpAny _ _ (call (Value.builtin "str.lower") [Value.str _ _]) _ _ _); k_dflt (refine' KXw.lower (by assumption) (by (exact low_fit (by assumption))) ?_; k_whole); intro t' k'))
  k_with "mine:moved" => (((rename Keep _ _ => kp9'); (with_reducible rename Fr _ _ _ _ => kF9); (with_reducible rename News _ _ _ _ => kN9); (replace kF9 := fr_keep kF9 kp9'); (replace kN9 := news_keep kN9 kp9'); (try dsimp only at kF9 kN9)))
  k_with "mine:movedN" => (((rename Keep _ _ => kp9'); (rename (Heap.get? _ _ = none) => hn9'); (rename (Heap.get? _ _ = some _) => hq9'); (with_reducible rename Fr _ _ _ _ => kF9); (with_reducible rename News _ _ _ _ => kN9); (replace kN9 := news_add kF9 (news_keep kN9 kp9') hn9' hq9'); (replace kF9 := fr_keep kF9 kp9'); (clear hn9' hq9'); (try dsimp only at kF9 kN9)))
  k_with "call builtin:str.find" => ((k_here; k_dflt (first | (refine' KXw.find (by assumption) ?_; k_whole) | (refine' find3_known (by assumption) ?_; k_whole)); intro t' k'))
  k_with "call builtin:str.split" => ((k_here; k_dflt (refine' split_known (by assumption) (by k_asm) (by k_asm) (by assumption) (by assumption) ?_; k_whole); intro D' h' k' t1' t2' t3' t4' t5' F' N' l1; (try k_lt l1)))
  k_with "call type:int" => ((k_here; (with_reducible show wpAny _ _ (call (Value.type "int") [Value.str _ _]) _ _ _); k_dflt (refine' int_known (by assumption) (by assumption) ?_; k_whole); intro t' k'))
  k_with "subscriptTail" => ((k_here; (with_reducible show wpAny _ _ (subscriptTail _ _ (Value.ref _) (Value.int _ _)) _ _ _); k_dflt (refine' item_tupleT (by exact tup_base (by k_asm) (by assumption)) (by decide) (by decide) (by rfl) (by rfl) ?_; k_whole)))
  trivial
-- room for a contract at its place
-- a written text's lower case is named by a fact
-- behind a contract: the frame's and the ledger's facts at the new heap
-- behind a contract that made an object: its fact joins the ledger

set_option maxHeartbeats 4000000 in
theorem parse_ok (w : World) {p : Program} {loose : List Str} {mean : ExcName → Option Value} {mg mb : Str → Option Value} {env : Env} {outer : List Env} {A₀ : Around} {base h₀ : Heap} {L : Addr} {m : Str → Option Value} {s : Shared} {Q E : Value → Shared → Prop}
  (B : Below A₀ base outer h₀) (F : Fr h₀ L s.heap m) (X : (Mine.KK w.params).In h₀) (T : Top p loose mean mg mb h₀) (hf : env.frame = some L) (hke : env.scope.kind = .function)
  {peer : Addr} {resp owner : Str} {t to tp : Tok} {port : Int} (hp : s.heap.get? peer = some (tupO [.str owner to, .int 21 tp]))
  {r : Int} {a b c prt e5 : Str} (R : IsReply resp port r a b c prt e5)
  (hret : ∀ q t1 t2 h' tk', Keep s.heap h' → s.heap.get? q = none → h'.get? q = some (tupO [.str owner t1, .int port t2]) → Q (.ref q) { s with heap := h', toks := tk' }) :
  wpAny (model PySem.Challenge.rw_tl0048_02.prog w) (Ar 360 600 env outer) (call (.ref 148) [.str resp t, .ref peer]) Q E s := by
  revert X; k_fill; intro X
  refine wpAny_call ?_
  k_dflt (refine' base_plain (binds := [(Str.ofString "resp", .str resp t), (Str.ofString "peer", .ref peer)]) ?k1 ?k2 ?k3 ?k5 ?kA ?kF ?kK ?k6 ?k7 ?k8 ?k9 ?kB ?_ ?c2 ?c3 ?c4 ?c5; (case kA => exact rfl); (case kF => assumption); (case kK => assumption); (case k1 => k_asm); (case k2 => k_asm); (case k3 => k_asm); (case k5 => k_asm); (case k6 => k_is); (case k7 => k_is); (case k8 => exact Nat.le_of_ble_eq_true rfl); (case k9 => first | exact BindsTo.of_eq rfl | exact binds_K (by k_in) rfl (by k_is) rfl rfl rfl); (case c5 => decide); (case kB => exact locs rfl); (case c2 => exact rfl); (case c3 => exact rfl); (case c4 => exact rfl))
  intro L' h' F' B' X' T'
  have N' : News s.heap L' h' [] := News.nil
  clear B F X T
  (try dsimp only [List.reverse, List.reverseAux] at F')
  change wpAny _ _ _ _ _ _
  k_fold
  obtain ⟨hlen, hlo, hhi, s3, f1, f2, i2, sl, sp, ml, it, pl⟩ := R
  k_steps
  · exfalso; simp_all
  · exfalso; simp_all
  (rename Fr _ _ _ _ => kF); (rename News _ _ _ _ => kN)
  exact hret _ _ _ _ _ kF.keep (kN.fresh (.head _)) (kN.get (.head _))
theorem linesEqual : True := by
  w_top off
  k_with_none
  k_with "getMethod ref" => ((k_here; (with_reducible show wpAny _ _ (getMethod (Value.ref _) (Str.ofString "search") _) _ _ _); k_dflt (refine' search_meth (by k_asm) (by k_asm) (by k_is) ?_; k_whole)))
  k_with "call builtin:re.Pattern.search" => ((k_here; k_dflt (first
  | (refine' search_name (by k_asm) (by k_asm) (by k_is) (by k_is) (by decide +kernel) (by assumption) (by assumption) ?_; k_whole)
  | (refine' search_val (by k_asm) (by k_asm) (by k_is) (by k_is) (by decide +kernel) (by assumption) (by assumption) ?_; k_whole))))
  k_with "mine:le" => (exact Nat.le_of_ble_eq_true rfl)
  k_with "call builtin:str.lower" => ((k_here; (with_reducible show wpAny _ _ (call (Value.builtin "str.lower") [Value.str _ _]) _ _ _); k_dflt (refine' KXw.lower (by assumption) (by (exact low_fit (by assumption))) ?_; k_whole); intro t' k'))
  k_with "mine:moved" => (((rename Keep _ _ => kp9'); (with_reducible rename Fr _ _ _ _ => kF9); (with_reducible rename News _ _ _ _ => kN9); (replace kF9 := fr_keep kF9 kp9'); (replace kN9 := news_keep kN9 kp9'); (try dsimp only at kF9 kN9)))
  k_with "mine:movedN" => (((rename Keep _ _ => kp9'); (rename (Heap.get? _ _ = none) => hn9'); (rename (Heap.get? _ _ = some _) => hq9'); (with_reducible rename Fr _ _ _ _ => kF9); (with_reducible rename News _ _ _ _ => kN9); (replace kN9 := news_add kF9 (news_keep kN9 kp9') hn9' hq9'); (replace kF9 := fr_keep kF9 kp9'); (clear hn9' hq9'); (try dsimp only at kF9 kN9)))
  k_with "compareOp Eq ref ref" => ((k_here; k_dflt (refine' norm_eq (by exact Fr.keep (by k_asm) _ _ (by assumption)) (by exact Fr.keep (by k_asm) _ _ (by assumption)) (by assumption) (by exact Fr.keep (by k_asm) _ _ (by assumption)) (by exact Fr.keep (by k_asm) _ _ (by assumption)) (by assumption) (by ke_room) ?_; k_whole)))
  trivial
-- room for a contract at its place
-- a written text's lower case is named by a fact
-- behind a contract: the frame's and the ledger's facts at the new heap
-- behind a contract that made an object: its fact joins the ledger
set_option maxHeartbeats 4000000 in
theorem equal_ok (w : World) {p : Program} {loose : List Str} {mean : ExcName → Option Value} {mg mb : Str → Option Value} {env : Env} {outer : List Env} {A₀ : Around} {base h₀ : Heap} {L : Addr} {m : Str → Option Value} {s : Shared} {Q E : Value → Shared → Prop}
  (B : Below A₀ base outer h₀) (F : Fr h₀ L s.heap m) (X : (Mine.KK w.params).In h₀) (T : Top p loose mean mg mb h₀) (hf : env.frame = some L) (hke : env.scope.kind = .function)
  {x y : Addr} {st st' : WsSt} (hx : WsAt 100 w.params s.heap x st) (hy : WsAt 100 w.params s.heap y st')
  (hret : ∀ h' tk', Keep s.heap h' → Q (.bool (decide (st.cs = st'.cs ∧ st.b = st'.b))) { s with heap := h', toks := tk' }) :
  wpAny (model PySem.Challenge.rw_tl0048_02.prog w) (Ar 340 400 env outer) (call (.ref 76) [.ref x, .ref y]) Q E s := by
  revert X; k_fill; intro X
  refine wpAny_call ?_
  k_dflt (refine' base_plain (binds := [(Str.ofString "self", .ref x), (Str.ofString "other", .ref y)]) ?k1 ?k2 ?k3 ?k5 ?kA ?kF ?kK ?k6 ?k7 ?k8 ?k9 ?kB ?_ ?c2 ?c3 ?c4 ?c5; (case kA => exact rfl); (case kF => assumption); (case kK => assumption); (case k1 => k_asm); (case k2 => k_asm); (case k3 => k_asm); (case k5 => k_asm); (case k6 => k_is); (case k7 => k_is); (case k8 => exact Nat.le_of_ble_eq_true rfl); (case k9 => first | exact BindsTo.of_eq rfl | exact binds_K (by k_in) rfl (by k_is) rfl rfl rfl); (case c5 => decide); (case kB => exact locs rfl); (case c2 => exact rfl); (case c3 => exact rfl); (case c4 => exact rfl))
  intro L' h' F' B' X' T'
  have N' : News s.heap L' h' [] := News.nil
  clear B F X T
  (try dsimp only [List.reverse, List.reverseAux] at F')
  change wpAny _ _ _ _ _ _
  k_fold
  obtain ⟨d, D1, D2, k1, k2, k3, k4, k5, tn, tt, tb, rv, sv, vs, H, hi⟩ := hx
  obtain ⟨d', D1', D2', k1', k2', k3', k4', k5', tn', tt', tb', rv', sv', vs', H', hi'⟩ := hy
  obtain ⟨a1, a2, a3, a4⟩ := ws_facts H
  obtain ⟨b1, b2, b3, b4⟩ := ws_facts H'
  k_steps
  (rename Fr _ _ _ _ => kF7)
  exact hret _ _ kF7.keep
theorem linesIndent : True := by
  w_top off
  k_with_none
  k_with "getMethod ref" => ((k_here; (with_reducible show wpAny _ _ (getMethod (Value.ref _) (Str.ofString "search") _) _ _ _); k_dflt (refine' search_meth (by k_asm) (by k_asm) (by k_is) ?_; k_whole)))
  k_with "call builtin:re.Pattern.search" => ((k_here; k_dflt (first
  | (refine' search_name (by k_asm) (by k_asm) (by k_is) (by k_is) (by decide +kernel) (by assumption) (by assumption) ?_; k_whole)
  | (refine' search_val (by k_asm) (by k_asm) (by k_is) (by k_is) (by decide +kernel) (by assumption) (by assumption) ?_; k_whole))))
  k_with "mine:le" => (exact Nat.le_of_ble_eq_true rfl)
  k_with "call builtin:str.lower" => ((k_here; (with_reducible show wpAny _ _ (call (Value.builtin "str.lower") [Value.str _ _]) _ _ _); k_dflt (refine' KXw.lower (by assumption) (by (exact low_fit (by assumption))) ?_; k_whole); intro t' k'))
  k_with "mine:moved" => (((rename Keep _ _ => kp9'); (with_reducible rename Fr _ _ _ _ => kF9); (with_reducible rename News _ _ _ _ => kN9); (replace kF9 := fr_keep kF9 kp9'); (replace kN9 := news_keep kN9 kp9'); (try dsimp only at kF9 kN9)))
  k_with "mine:movedN" => (((rename Keep _ _ => kp9'); (rename (Heap.get? _ _ = none) => hn9'); (rename (Heap.get? _ _ = some _) => hq9'); (with_reducible rename Fr _ _ _ _ => kF9); (with_reducible rename News _ _ _ _ => kN9); (replace kN9 := news_add kF9 (news_keep kN9 kp9') hn9' hq9'); (replace kF9 := fr_keep kF9 kp9'); (clear hn9' hq9'); (try dsimp only at kF9 kN9)))
  k_with "assign Tuple" => ((k_here; (with_reducible show wpAny _ _ (assign (Expr.Tuple _ _ _) _ (Value.ref _)) _ _ _); k_dflt (refine' pair_assign (by k_asm) (by k_asm) (by exact ⟨_, Fr.keep (by k_asm) _ _ (by assumption), rfl, _, rfl⟩) (by exact rfl) (by exact rfl) (by exact rfl) (by exact rfl) ?_; k_whole); intro h9 tk9 F9 N9))
  k_with "call builtin:len" => ((k_here; (with_reducible show wpAny _ _ (call (Value.builtin "len") [Value.ref _]) _ _ _); k_dflt (refine' tup_len (by k_asm) (by assumption) (by assumption) (by first | assumption | omega) ?_; k_whole)))
  k_with "subscriptTail" => ((k_here; (with_reducible show wpAny _ _ (subscriptTail _ _ (Value.ref _) (Value.int _ _)) _ _ _); k_dflt (refine' tup_item (by k_asm) (by assumption) (by assumption) (by omega) (by omega) (by omega) ?_ (by with_unfolding_all rfl); k_whole); intro t9))
  k_with "exec For Name Call cons nil" => ((k_here; (with_reducible show wpAny _ _ (exec (Stmt.For (Expr.Name _ _) (Expr.Call (Expr.Name (Str.ofString "range") _) _ _ _) _ [] _) _) _ _ _); (with_reducible rename Fr _ _ _ _ => kF9); k_dflt (refine' For_rangeF kF9 (by exact rfl) ?_; k_whole)))
  trivial
-- room for a contract at its place
-- a written text's lower case is named by a fact
-- behind a contract: the frame's and the ledger's facts at the new heap
-- behind a contract that made an object: its fact joins the ledger

theorem il_shape0 {m m0 : Str → Option Value} {a : Value} (hm : m = fun y => if y = Str.ofString "il" then some a else m0 y) : m = fun y => if y = Str.ofString "il" then some a else over [Str.ofString "i"] m m y := by
  funext y
  have hm' := congrFun hm y
  by_cases h1 : y = Str.ofString "il"
  · subst h1; exact hm'
  simp only [if_neg h1]
  unfold over
  split <;> rfl
theorem il_shape1 {m1 m f : Str → Option Value} {a b c : Value} (hm : m1 = fun y => if y = Str.ofString "il" then some a else if y = Str.ofString "i" then some b else if y = Str.ofString "il" then some c else over [Str.ofString "i"] f m y) :
    m1 = fun y => if y = Str.ofString "il" then some a else over [Str.ofString "i"] (fun _ => some b) m y := by
  subst hm
  funext y
  by_cases h1 : y = Str.ofString "il"
  · subst h1; rfl
  by_cases h2 : y = Str.ofString "i"
  · subst h2; rfl
  simp only [if_neg h1, if_neg h2]
  have hc : [Str.ofString "i"].contains y = false := by simpa using h2
  rw [over_off hc, over_off hc]
set_option maxHeartbeats 4000000 in
theorem indent_ok (w : World) {p : Program} {loose : List Str} {mean : ExcName → Option Value} {mg mb : Str → Option Value} {env : Env} {outer : List Env} {A₀ : Around} {base h₀ : Heap} {L : Addr} {m : Str → Option Value} {s : Shared} {Q E : Value → Shared → Prop}
  (B : Below A₀ base outer h₀) (F : Fr h₀ L s.heap m) (X : (Mine.KK w.params).In h₀) (T : Top p loose mean mg mb h₀) (hf : env.frame = some L) (hke : env.scope.kind = .function)
  {x : Addr} {st : WsSt} {tab : Int} {tk0 : Tok} (hx : WsAt 100 w.params s.heap x st) (h1 : 1 ≤ tab) (h2 : tab ≤ 20) (hs1 : st.cs.length ≤ 20) (hs2 : st.b ≤ 100) (hs3 : st.nt ≤ 100) (hs4 : ∀ a ∈ st.cs, 0 ≤ a ∧ a ≤ 100)
  (hret : ∀ h' tk' t, Keep s.heap h' → Q (.int (levelF st tab) t) { s with heap := h', toks := tk' }) :
  wpAny (model PySem.Challenge.rw_tl0048_02.prog w) (Ar 340 400 env outer) (call (.ref 69) [.ref x, .int tab tk0]) Q E s := by
  revert X; k_fill; intro X
  refine wpAny_call ?_
  k_dflt (refine' base_plain (binds := [(Str.ofString "self", .ref x), (Str.ofString "tabsize", .int tab tk0)]) ?k1 ?k2 ?k3 ?k5 ?kA ?kF ?kK ?k6 ?k7 ?k8 ?k9 ?kB ?_ ?c2 ?c3 ?c4 ?c5; (case kA => exact rfl); (case kF => assumption); (case kK => assumption); (case k1 => k_asm); (case k2 => k_asm); (case k3 => k_asm); (case k5 => k_asm); (case k6 => k_is); (case k7 => k_is); (case k8 => exact Nat.le_of_ble_eq_true rfl); (case k9 => first | exact BindsTo.of_eq rfl | exact binds_K (by k_in) rfl (by k_is) rfl rfl rfl); (case c5 => decide); (case kB => exact locs rfl); (case c2 => exact rfl); (case c3 => exact rfl); (case c4 => exact rfl))
  intro L' h' F' B' X' T'
  have N' : News s.heap L' h' [] := News.nil
  clear B F X T
  (try dsimp only [List.reverse, List.reverseAux] at F')
  change wpAny _ _ _ _ _ _
  k_fold
  obtain ⟨d, D1, D2, k1, k2, k3, k4, k5, tn, tt, tb, rv, sv, vs, H, hi⟩ := hx
  obtain ⟨a1, a2, a3, a4⟩ := ws_facts H
  k_steps
  refine range_pack (fun m news i m₁ news₁ => news₁ = news ∧ ∃ ti f, m₁ = fun y => if y = Str.ofString "il" then some (.int (ilF st.cs tab i) ti) else over [Str.ofString "i"] f m y) (by assumption) (by omega) (by omega) (by omega) (by omega) (by k_asm) (by k_asm) ⟨rfl, _, _, il_shape0 rfl⟩ ?_ ?_
  · rintro i tv m₁ news₁ h₁ tk₁ I oI hi' ⟨rfl, ti, f, rfl⟩ F₁ N₁ hI
    have hcs : 0 ≤ st.cs.getD (tab + (i : Int)).toNat 0 ∧ st.cs.getD (tab + (i : Int)).toNat 0 ≤ 100 := by
      rw [List.getD_eq_getElem?_getD, List.getElem?_eq_getElem (by omega)]
      exact hs4 _ (List.getElem_mem _)
    obtain ⟨hcs1, hcs2⟩ := hcs
    k_steps
    (rename Fr _ _ _ _ => kF7); (rename News _ _ _ _ => kN7)
    exact ⟨_, _, _, _, rfl, kF7, kN7, hI, rfl, _, _, il_shape1 rfl⟩
  · rintro m₁ news₁ h₁ tk₁ ⟨rfl, ti, f, rfl⟩ F₁ N₁
    k_steps
    (rename Fr _ _ _ _ => kF7)
    exact hret _ _ _ kF7.keep
theorem linesValues : True := by
  w_top off
  k_with_none
  k_with "getMethod ref" => ((k_here; (with_reducible show wpAny _ _ (getMethod (Value.ref _) (Str.ofString "search") _) _ _ _); k_dflt (refine' search_meth (by k_asm) (by k_asm) (by k_is) ?_; k_whole)))
  k_with "call builtin:re.Pattern.search" => ((k_here; k_dflt (first
  | (refine' search_name (by k_asm) (by k_asm) (by k_is) (by k_is) (by decide +kernel) (by assumption) (by assumption) ?_; k_whole)
  | (refine' search_val (by k_asm) (by k_asm) (by k_is) (by k_is) (by decide +kernel) (by assumption) (by assumption) ?_; k_whole))))
  k_with "mine:le" => (exact Nat.le_of_ble_eq_true rfl)
  k_with "call builtin:str.lower" => ((k_here; (with_reducible show wpAny _ _ (call (Value.builtin "str.lower") [Value.str _ _]) _ _ _); k_dflt (refine' KXw.lower (by assumption) (by (exact low_fit (by assumption))) ?_; k_whole); intro t' k'))
  k_with "mine:moved" => (((rename Keep _ _ => kp9'); (with_reducible rename Fr _ _ _ _ => kF9); (with_reducible rename News _ _ _ _ => kN9); (replace kF9 := fr_keep kF9 kp9'); (replace kN9 := news_keep kN9 kp9'); (try dsimp only at kF9 kN9)))
  k_with "mine:movedN" => (((rename Keep _ _ => kp9'); (rename (Heap.get? _ _ = none) => hn9'); (rename (Heap.get? _ _ = some _) => hq9'); (with_reducible rename Fr _ _ _ _ => kF9); (with_reducible rename News _ _ _ _ => kN9); (replace kN9 := news_add kF9 (news_keep kN9 kp9') hn9' hq9'); (replace kF9 := fr_keep kF9 kp9'); (clear hn9' hq9'); (try dsimp only at kF9 kN9)))
  k_with "eval ListComp" => ((k_here; (with_reducible show wpAny _ _ (eval (Expr.ListComp _ _ _ _) _) _ _ _); k_dflt (refine' Comp_list (by exact rfl) (by exact rfl) (by decide) (by exact rfl) (by decide) ?_; k_whole)))
  trivial
-- room for a contract at its place
-- a written text's lower case is named by a fact
-- behind a contract: the frame's and the ledger's facts at the new heap
-- behind a contract that made an object: its fact joins the ledger
set_option maxHeartbeats 4000000 in
theorem values_ok (w : World) {p : Program} {loose : List Str} {mean : ExcName → Option Value} {mg mb : Str → Option Value} {env : Env} {outer : List Env} {A₀ : Around} {base h₀ : Heap} {L : Addr} {m : Str → Option Value} {s : Shared} {Q E : Value → Shared → Prop}
  (B : Below A₀ base outer h₀) (F : Fr h₀ L s.heap m) (X : (Mine.KK w.params).In h₀) (T : Top p loose mean mg mb h₀) (hf : env.frame = some L) (hke : env.scope.kind = .function)
  {x d l : Addr} {tk0 : Tok} {nL : Nat} {items : List Value} {es : List (Str × Str)}
  (hx : s.heap.get? x = some (instObj 294 d)) (hd : s.heap.get? d = some (dictOf [{ hash := PyData.keyHash w.params (Str.ofString "_headers"), key := .str (Str.ofString "_headers") tk0, val := .ref l }] 1)) (hlst : s.heap.get? l = some (lstO items nL))
  (ht : Tups s.heap items es) (hil : items.length ≤ 1000)
  (hret : ∀ a n vs h' tk', Keep s.heap h' → s.heap.get? a = none → h'.get? a = some (lstO vs n) → StrsAre vs (es.map (·.2)) → Q (.ref a) { s with heap := h', toks := tk' }) :
  wpAny (model PySem.Challenge.rw_tl0048_02.prog w) (Ar 340 400 env outer) (call (.ref 251) [.ref x]) Q E s := by
  revert X; k_fill; intro X
  refine wpAny_call ?_
  k_dflt (refine' base_plain (binds := [(Str.ofString "self", .ref x)]) ?k1 ?k2 ?k3 ?k5 ?kA ?kF ?kK ?k6 ?k7 ?k8 ?k9 ?kB ?_ ?c2 ?c3 ?c4 ?c5; (case kA => exact rfl); (case kF => assumption); (case kK => assumption); (case k1 => k_asm); (case k2 => k_asm); (case k3 => k_asm); (case k5 => k_asm); (case k6 => k_is); (case k7 => k_is); (case k8 => exact Nat.le_of_ble_eq_true rfl); (case k9 => first | exact BindsTo.of_eq rfl | exact binds_K (by k_in) rfl (by k_is) rfl rfl rfl); (case c5 => decide); (case kB => exact locs rfl); (case c2 => exact rfl); (case c3 => exact rfl); (case c4 => exact rfl))
  intro L' h' F' B' X' T'
  have N' : News s.heap L' h' [] := News.nil
  clear B F X T
  (try dsimp only [List.reverse, List.reverseAux] at F')
  change wpAny _ _ _ _ _ _
  k_fold
  k_steps
  (rename Fr _ _ _ _ => kF7)
  refine ⟨l, items.toArray, rfl, ⟨_, kF7.keep _ _ hlst, rfl, _, rfl⟩, ?_, go_tuple fun v hv => Tups.refs ht v (by simpa using hv), fun i ys news => news = [] ∧ StrsAre ys ((es.take i).map (·.2)), ⟨rfl, .nil⟩, ?_, ?_⟩
  · rw [List.size_toArray, sizeLine_eq]
    omega
  · rintro hb C D I oI i v ys nD news mC h₁ tk₁ E' kb hx' ⟨rfl, hst⟩ FC NC hne hID
    obtain ⟨e, r, ta, tb, he, rfl, hr⟩ := Tups.at ht (i := i) (v := v) (by simpa using hx')
    refine pair_assign (T := r) (x := .str e.1 ta) (y := .str e.2 tb) FC NC ⟨_, FC.keep _ _ (kb _ _ (kF7.keep _ _ hr)), rfl, _, rfl⟩ rfl rfl rfl rfl fun h₂ tk₂ F₂ N₂ => ?_
    k_steps
    any_goals (show CompEnd _ _ _ _ _ _ _ _ _; refine ⟨_, _, _, [], rfl, F₂, N₂, hne, rfl, ?_⟩; obtain ⟨hlt, rfl⟩ := List.getElem?_eq_some_iff.mp he; rw [List.take_succ_eq_append_getElem hlt, List.map_append]; exact StrsAre.append' hst (.cons _ _ .nil))
    all_goals (first | exact [] | exact (0 : Nat) | exact default)
  · rintro ys D nD news h9 tk9 ⟨rfl, hst⟩ kk hD hD' hnews
    refine hret D nD ys h9 tk9 (Keep.trans kF7.keep kk) ?_ hD' (by simpa [Tups.length ht] using hst)
    cases q : s.heap.get? D with
    | none => rfl
    | some o =>
      have := kF7.keep _ _ q
      rw [this] at hD
      cases hD
theorem linesReply : True := by
  w_top off
  k_with_none
  k_with "getMethod ref" => ((k_here; (with_reducible show wpAny _ _ (getMethod (Value.ref _) (Str.ofString "search") _) _ _ _); k_dflt (refine' search_meth (by k_asm) (by k_asm) (by k_is) ?_; k_whole)))
  k_with "call builtin:re.Pattern.search" => ((k_here; k_dflt (first
  | (refine' search_name (by k_asm) (by k_asm) (by k_is) (by k_is) (by decide +kernel) (by assumption) (by assumption) ?_; k_whole)
  | (refine' search_val (by k_asm) (by k_asm) (by k_is) (by k_is) (by decide +kernel) (by assumption) (by assumption) ?_; k_whole))))
  k_with "mine:le" => (exact Nat.le_of_ble_eq_true rfl)
  k_with "call builtin:str.lower" => ((k_here; (with_reducible show wpAny _ _ (call (Value.builtin "str.lower") [Value.str _ _]) _ _ _); k_dflt (refine' KXw.lower (by assumption) (by (exact low_fit (by assumption))) ?_; k_whole); intro t' k'))
  k_with "mine:moved" => (((rename Keep _ _ => kp9'); (with_reducible rename Fr _ _ _ _ => kF9); (with_reducible rename News _ _ _ _ => kN9); (replace kF9 := fr_keep kF9 kp9'); (replace kN9 := news_keep kN9 kp9'); (try dsimp only at kF9 kN9)))
  k_with "mine:movedN" => (((rename Keep _ _ => kp9'); (rename (Heap.get? _ _ = none) => hn9'); (rename (Heap.get? _ _ = some _) => hq9'); (with_reducible rename Fr _ _ _ _ => kF9); (with_reducible rename News _ _ _ _ => kN9); (replace kN9 := news_add kF9 (news_keep kN9 kp9') hn9' hq9'); (replace kF9 := fr_keep kF9 kp9'); (clear hn9' hq9'); (try dsimp only at kF9 kN9)))
  trivial
-- room for a contract at its place
-- a written text's lower case is named by a fact
-- behind a contract: the frame's and the ledger's facts at the new heap
-- behind a contract that made an object: its fact joins the ledger
set_option maxHeartbeats 4000000 in
theorem reply_okw (w : World) {p : Program} {loose : List Str} {mean : ExcName → Option Value} {mg mb : Str → Option Value} {env : Env} {outer : List Env} {A₀ : Around} {base h₀ : Heap} {L : Addr} {m : Str → Option Value} {s : Shared} {Q E : Value → Shared → Prop}
  (B : Below A₀ base outer h₀) (F : Fr h₀ L s.heap m) (X : (Mine.KK w.params).In h₀) (T : Top p loose mean mg mb h₀) (hf : env.frame = some L) (hke : env.scope.kind = .function)
  {port : Int} {t : Tok} (hp0 : 0 ≤ port) (hp1 : port < 12)
  (hret : ∀ h' tk' t', Keep s.heap h' → Q (.str (rpF port) t') { s with heap := h', toks := tk' }) :
  wpAny (model PySem.Challenge.rw_tl0048_02.prog w) (Ar 340 400 env outer) (call (.ref 305) [.int port t]) Q E s := by
  revert X; k_fill; intro X
  refine wpAny_call ?_
  k_dflt (refine' base_plain (binds := [(Str.ofString "port", .int port t)]) ?k1 ?k2 ?k3 ?k5 ?kA ?kF ?kK ?k6 ?k7 ?k8 ?k9 ?kB ?_ ?c2 ?c3 ?c4 ?c5; (case kA => exact rfl); (case kF => assumption); (case kK => assumption); (case k1 => k_asm); (case k2 => k_asm); (case k3 => k_asm); (case k5 => k_asm); (case k6 => k_is); (case k7 => k_is); (case k8 => exact Nat.le_of_ble_eq_true rfl); (case k9 => first | exact BindsTo.of_eq rfl | exact binds_K (by k_in) rfl (by k_is) rfl rfl rfl); (case c5 => decide); (case kB => exact locs rfl); (case c2 => exact rfl); (case c3 => exact rfl); (case c4 => exact rfl))
  intro L' h' F' B' X' T'
  have N' : News s.heap L' h' [] := News.nil
  clear B F X T
  (try dsimp only [List.reverse, List.reverseAux] at F')
  change wpAny _ _ _ _ _ _
  k_fold
  obtain ⟨_, _, _, _, _, _, _, hml⟩ := pn_facts hp0 hp1
  k_steps
  all_goals (exact hret _ _ _ (Fr.keep (by k_asm)))
theorem linesAddH : True := by
  w_top off
  k_with_none
  k_with "getMethod ref" => ((k_here; (with_reducible show wpAny _ _ (getMethod (Value.ref _) (Str.ofString "search") _) _ _ _); k_dflt (refine' search_meth (by k_asm) (by k_asm) (by k_is) ?_; k_whole)))
  k_with "call builtin:re.Pattern.search" => ((k_here; k_dflt (first
  | (refine' search_name (by k_asm) (by k_asm) (by k_is) (by k_is) (by decide +kernel) (by assumption) (by assumption) ?_; k_whole)
  | (refine' search_val (by k_asm) (by k_asm) (by k_is) (by k_is) (by decide +kernel) (by assumption) (by assumption) ?_; k_whole))))
  k_with "mine:le" => (exact Nat.le_of_ble_eq_true rfl)
  k_with "call builtin:str.lower" => ((k_here; (with_reducible show wpAny _ _ (call (Value.builtin "str.lower") [Value.str _ _]) _ _ _); k_dflt (refine' KXw.lower (by assumption) (by (exact low_fit (by assumption))) ?_; k_whole); intro t' k'))
  k_with "mine:moved" => (((rename Keep _ _ => kp9'); (with_reducible rename Fr _ _ _ _ => kF9); (with_reducible rename News _ _ _ _ => kN9); (replace kF9 := fr_keep kF9 kp9'); (replace kN9 := news_keep kN9 kp9'); (try dsimp only at kF9 kN9)))
  k_with "mine:movedN" => (((rename Keep _ _ => kp9'); (rename (Heap.get? _ _ = none) => hn9'); (rename (Heap.get? _ _ = some _) => hq9'); (with_reducible rename Fr _ _ _ _ => kF9); (with_reducible rename News _ _ _ _ => kN9); (replace kN9 := news_add kF9 (news_keep kN9 kp9') hn9' hq9'); (replace kF9 := fr_keep kF9 kp9'); (clear hn9' hq9'); (try dsimp only at kF9 kN9)))
  k_with "call ref" => ((k_here; (with_reducible show wpAny _ _ (call (Value.ref 193) _ _) _ _ _); k_dflt (refine' at_le (by exact rfl) (by exact rfl) (by walk_at "mine:le") (by walk_at "mine:le") (conv_ok _ (by k_asm) (by k_asm) (by k_asm) (by k_asm) (by exact rfl) (by exact rfl) (by assumption) (by first | assumption | omega) ?_); k_whole); intro h9 tk9 kp9; walk_at "mine:moved"))
  trivial
-- room for a contract at its place
-- a written text's lower case is named by a fact
-- behind a contract: the frame's and the ledger's facts at the new heap
-- behind a contract that made an object: its fact joins the ledger

set_option maxHeartbeats 4000000 in
theorem add_ok (w : World) {p : Program} {loose : List Str} {mean : ExcName → Option Value} {mg mb : Str → Option Value} {env : Env} {outer : List Env} {A₀ : Around} {base h₀ : Heap} {L : Addr} {m : Str → Option Value} {s : Shared} {Q E : Value → Shared → Prop}
  (B : Below A₀ base outer h₀) (F : Fr h₀ L s.heap m) (X : (Mine.KK w.params).In h₀) (T : Top p loose mean mg mb h₀) (hf : env.frame = some L) (hke : env.scope.kind = .function)
  {x d l : Addr} {tk0 : Tok} {nL : Nat} {items : List Value} {nm v : Str} {t tv : Tok}
  (hx : s.heap.get? x = some (instObj 294 d)) (hd : s.heap.get? d = some (dictOf [{ hash := PyData.keyHash w.params (Str.ofString "_headers"), key := .str (Str.ofString "_headers") tk0, val := .ref l }] 1)) (N : News h₀ L s.heap [(l, lstO items nL)])
  (hnf : Fine nm) (hvf : Fine v) (hvl : v.length ≤ 1000) (hnl : nm.length ≤ 1000) (hil : items.length ≤ 1000)
  (hret : ∀ a n' h' tk' t2 t3, KeepBut l s.heap h' → s.heap.get? a = none → h'.get? a = some (tupO [.str nm t2, .str v t3]) → h'.get? l = some (lstO (items ++ [.ref a]) n') → (∀ it es, Tups s.heap it es → Tups h' (it ++ [.ref a]) (es ++ [(nm, v)])) → Q .none { s with heap := h', toks := tk' }) :
  wpAny (model PySem.Challenge.rw_tl0048_02.prog w) (Ar 340 400 env outer) (call (.ref 291) [.ref x, .str nm t, .str v tv]) Q E s := by
  revert X; k_fill; intro X
  have hlS := N.get (List.Mem.head _)
  refine wpAny_call ?_
  k_dflt (refine' base_kw (news := [(l, lstO items nL)]) (binds := fun dkw => [(Str.ofString "self", .ref x), (Str.ofString "_name", .str nm t), (Str.ofString "_value", .str v tv), (Str.ofString "_params", .ref dkw)]) ?k1 ?k2 ?k3 ?kN ?k5 ?kA ?kF ?kK ?k6 ?k7 ?k8 ?k9 ?kB ?_ ?c2 ?c3 ?c4 ?c5; (case kA => exact rfl); (case kF => assumption); (case kK => assumption); (case k1 => k_asm); (case k2 => k_asm); (case k3 => k_asm); (case kN => assumption); (case k5 => k_asm); (case k6 => k_is); (case k7 => k_is); (case k8 => exact Nat.le_of_ble_eq_true rfl); (case k9 => exact rfl); (case c5 => decide); (case kB => exact fun _ => locs rfl); (case c2 => exact rfl); (case c3 => exact rfl); (case c4 => exact rfl))
  intro g D' L' h' hg hDl hDL hDn hDm F' N' B' X' T'
  clear B F X T N
  (try dsimp only [List.reverse, List.reverseAux] at F')
  change wpAny _ _ _ _ _ _
  k_fold
  have hg' : ∀ b o, s.heap.get? b = some o → b ≠ l → g.get? b = some o := fun b o e h => hg b o e (by simpa using h)
  have hgx := hg' _ _ hx (addr_ne hx hlS rfl)
  have hgd := hg' _ _ hd (addr_ne hd hlS rfl)
  have hlD : @LT.lt Nat _ l D' := hDl _ (.head _)
  have hmt := empty_dict (prog := PySem.Challenge.rw_tl0048_02.prog) (w := w) s.heap
  have hfp : PyProof.V.FlatPairs (K := Str) PyData.str [] [] := .nil
  generalize emptyD = od9 at *
  k_steps
  (rename Fr _ _ _ _ => kF); (rename News _ _ _ _ => kN)
  rw [join_one] at kN
  refine hret _ (nL + 1) _ _ _ _ (fun b o hb e => kF.keep b o (hg' b o e hb)) ?_ (kN.get (.head _)) ?_ fun it es ht => Tups.snoc (kN.get (.head _)) (Tups.but hlS rfl (fun b o e hb => kF.keep b o (hg' b o e hb)) ht)
  · have hfr := kN.fresh (.head _)
    cases e : s.heap.get? _ with
    | none => rfl
    | some o =>
      have := hg' _ o e (Nat.ne_of_gt (by omega))
      rw [this] at hfr
      cases hfr
  · have := kN.get (.tail _ (.tail _ (.tail _ (.head _))))
    simpa using this
theorem linesDel : True := by
  w_top off
  k_with_none
  k_with "getMethod ref" => ((k_here; (with_reducible show wpAny _ _ (getMethod (Value.ref _) (Str.ofString "search") _) _ _ _); k_dflt (refine' search_meth (by k_asm) (by k_asm) (by k_is) ?_; k_whole)))
  k_with "call builtin:re.Pattern.search" => ((k_here; k_dflt (first
  | (refine' search_name (by k_asm) (by k_asm) (by k_is) (by k_is) (by decide +kernel) (by assumption) (by assumption) ?_; k_whole)
  | (refine' search_val (by k_asm) (by k_asm) (by k_is) (by k_is) (by decide +kernel) (by assumption) (by assumption) ?_; k_whole))))
  k_with "mine:le" => (exact Nat.le_of_ble_eq_true rfl)
  k_with "call builtin:str.lower" => ((k_here; (with_reducible show wpAny _ _ (call (Value.builtin "str.lower") [Value.str _ _]) _ _ _); k_dflt (refine' KXw.lower (by assumption) (by (exact low_fit (by assumption))) ?_; k_whole); intro t' k'))
  k_with "mine:moved" => (((rename Keep _ _ => kp9'); (with_reducible rename Fr _ _ _ _ => kF9); (with_reducible rename News _ _ _ _ => kN9); (replace kF9 := fr_keep kF9 kp9'); (replace kN9 := news_keep kN9 kp9'); (try dsimp only at kF9 kN9)))
  k_with "mine:movedN" => (((rename Keep _ _ => kp9'); (rename (Heap.get? _ _ = none) => hn9'); (rename (Heap.get? _ _ = some _) => hq9'); (with_reducible rename Fr _ _ _ _ => kF9); (with_reducible rename News _ _ _ _ => kN9); (replace kN9 := news_add kF9 (news_keep kN9 kp9') hn9' hq9'); (replace kF9 := fr_keep kF9 kp9'); (clear hn9' hq9'); (try dsimp only at kF9 kN9)))
  k_with "call ref" => ((k_here; (with_reducible show wpAny _ _ (call (Value.ref 193) _ _) _ _ _); k_dflt (refine' at_le (by exact rfl) (by exact rfl) (by walk_at "mine:le") (by walk_at "mine:le") (conv_ok _ (by k_asm) (by k_asm) (by k_asm) (by k_asm) (by exact rfl) (by exact rfl) (by assumption) (by first | assumption | omega) ?_); k_whole); intro h9 tk9 kp9; walk_at "mine:moved"))
  k_with "eval ListComp" => ((k_here; (with_reducible show wpAny _ _ (eval (Expr.ListComp _ _ _ _) _) _ _ _); k_dflt (refine' Comp_list (by exact rfl) (by exact rfl) (by decide) (by exact rfl) (by decide) ?_; k_whole)))
  k_with "eval Name" => ((k_here; k_dflt (refine' name_cell (by k_asm) (by with_unfolding_all exact rfl) (by exact rfl) (by decide) (by exact rfl) (by assumption) (by assumption) ?_; k_whole)))
  k_with "subscriptTail" => ((k_here; (with_reducible show wpAny _ _ (subscriptTail _ _ (Value.ref _) (Value.int _ _)) _ _ _); k_dflt (refine' item_tupleT (by exact tup_base (by k_asm) (by assumption)) (by decide) (by decide) (by rfl) (by rfl) ?_; k_whole)))
  trivial
-- room for a contract at its place
-- a written text's lower case is named by a fact
-- behind a contract: the frame's and the ledger's facts at the new heap
-- behind a contract that made an object: its fact joins the ledger
set_option maxHeartbeats 4000000 in
theorem del_ok (w : World) {p : Program} {loose : List Str} {mean : ExcName → Option Value} {mg mb : Str → Option Value} {env : Env} {outer : List Env} {A₀ : Around} {base h₀ : Heap} {L : Addr} {m : Str → Option Value} {s : Shared} {Q E : Value → Shared → Prop}
  (B : Below A₀ base outer h₀) (F : Fr h₀ L s.heap m) (X : (Mine.KK w.params).In h₀) (T : Top p loose mean mg mb h₀) (hf : env.frame = some L) (hke : env.scope.kind = .function)
  {x d l : Addr} {tk0 : Tok} {nL : Nat} {items : List Value} {es : List (Str × Str)} {nm q : Str} {t : Tok}
  (hx : s.heap.get? x = some (instObj 294 d)) (hd : s.heap.get? d = some (dictOf [{ hash := PyData.keyHash w.params (Str.ofString "_headers"), key := .str (Str.ofString "_headers") tk0, val := .ref l }] 1))
  (ht : Tups s.heap items es)  (N : News h₀ L s.heap [(l, lstO items nL)]) (hlow : Txt.lower nm = q) (hq : Fine q) (hnl : nm.length ≤ 1000) (hql : q.length ≤ 1048576) (hes : ∀ e ∈ es, e.1.length ≤ 1000) (hil : items.length ≤ 1000)
  (hret : ∀ n' items' h' tk', KeepBut l s.heap h' → h'.get? l = some (lstO items' n') → Tups s.heap items' (es.filter fun e => Txt.lower e.1 != q) → Q .none { s with heap := h', toks := tk' }) :
  wpAny (model PySem.Challenge.rw_tl0048_02.prog w) (Ar 340 400 env outer) (call (.ref 212) [.ref x, .str nm t]) Q E s := by
  revert X; k_fill; intro X
  have hlS := N.get (List.Mem.head _)
  refine wpAny_call ?_
  k_dflt (refine' base_cellsN (news := [(l, lstO items nL)]) (binds := [(Str.ofString "self", .ref x), (Str.ofString "name", .str nm t)]) ?k1 ?k2 ?k3 ?kN ?k5 ?kA ?kF ?kK ?k6 ?k7 ?k8 ?k9 ?kB ?kD ?_ ?c2 ?c3 ?c4; (case kA => exact rfl); (case kF => assumption); (case kK => assumption); (case k1 => k_asm); (case k2 => k_asm); (case k3 => k_asm); (case kN => assumption); (case k5 => k_asm); (case k6 => k_is); (case k7 => k_is); (case k8 => exact Nat.le_of_ble_eq_true rfl); (case k9 => first | exact BindsTo.of_eq rfl | exact binds_K (by k_in) rfl (by k_is) rfl rfl rfl); (case kB => exact rfl); (case kD => decide +kernel); (case c2 => exact rfl); (case c3 => exact rfl); (case c4 => exact rfl))
  intro g L' h' tk' cells' hg hDl F' N' Y' B' X' T'
  clear B F X T N
  (try dsimp only at F')
  (try simp only [List.cons_append, List.nil_append] at N')
  change wpAny _ _ _ _ _ _
  k_fold
  have hg' : ∀ b o, s.heap.get? b = some o → b ≠ l → g.get? b = some o := fun b o e h => hg b o e (by simpa using h)
  have hgx := hg' _ _ hx (addr_ne hx hlS rfl)
  have hgd := hg' _ _ hd (addr_ne hd hlS rfl)
  have hgt := Tups.but hlS rfl hg' ht
  have hlD : @LT.lt Nat _ l L' := hDl _ (.head _)
  obtain ⟨o1, rfl, d1⟩ := CellsAre.one Y'
  (try change o1.data = .cell (some (.str nm t)) at d1)
  clear Y'
  dsimp only [List.cons_append, List.nil_append] at N'
  k_steps
  (rename Fr _ _ _ _ => kF7); (rename News _ _ _ _ => kN7)
  rename (Obj.data _ = Data.cell (some (Value.str q _))) => d4
  have x1 := (kN7 _ (.head _)).1
  have kN7' := kN7
  refine ⟨l, items.toArray, rfl, News.isList kN7 (by k_mem : (l, lstO items nL) ∈ _), by rw [List.size_toArray, sizeLine_eq]; omega, go_name, fun i ys news => news = [] ∧ Tups s.heap ys ((es.take i).filter fun e => Txt.lower e.1 != q), ⟨rfl, trivial⟩, ?_, ?_⟩
  · rintro hb C D I2 oI2 i2 v ys nD news mC h₁ tk₁ E' kb hx' ⟨rfl, hst⟩ FC NC hne hID
    obtain ⟨e, r, ta, tb, he, rfl, hr⟩ := Tups.at ht (i := i2) (v := v) (by simpa using hx')
    have hrb := kb _ _ (kF7.keep _ _ (hg' _ _ hr (addr_ne hr hlS rfl)))
    have hel := hes e (List.mem_of_getElem? he)
    have y1 := kb _ _ x1
    generalize hlo : Txt.lower e.1 = elo at *
    clear kF7 kN7 x1
    refine name_assign FC NC rfl rfl fun h₂ F₂ N₂ => ?_
    clear FC NC
    k_steps
    any_goals (show CompEnd _ _ _ _ _ _ _ _ _; (rename Fr _ _ _ _ => kF8); (rename News _ _ _ _ => kN8); refine ⟨_, _, _, [], rfl, kF8, kN8, hne, rfl, ?_⟩; obtain ⟨hlt, rfl⟩ := List.getElem?_eq_some_iff.mp he; rw [List.take_succ_eq_append_getElem hlt, List.filter_append])
    any_goals (first | (rw [List.filter_cons_of_pos (by rw [hlo]; assumption)]; exact Tups.snoc hr hst) | (rw [List.filter_cons_of_neg (by rw [hlo]; simp [*])]; simpa using hst))
    all_goals (first | exact [] | exact (0 : Nat) | exact (Str.ofString "") | exact Value.none | exact default)
  · rintro ys D nD news h9 tk9 ⟨rfl, hst⟩ kk hD hD' hnews
    have kF6 := fr_keep kF7 kk
    have kN6 := news_add kF7 (news_keep kN7 kk) hD hD'
    clear kF7 kN7 x1
    k_steps
    have hes' := Tups.length ht
    have hyl : ys.length ≤ 1000 := by
      have h1 := Tups.length hst
      have h2 := List.length_filter_le (fun e : Str × Str => Txt.lower e.1 != q) (es.take items.toArray.size)
      rw [List.length_take] at h2
      omega
    have hDn : l ≠ D := fun e => by
      rw [← e, (kN7' _ (by k_mem : (l, lstO items nL) ∈ _)).1] at hD
      cases hD
    refine full_K kF6 kN6 (by k_mem) (by k_mem) hDn hil hyl fun h8 n8 F8 kb8 hl8 => ?_
    clear kN6
    k_steps
    refine hret n8 ys _ _ (fun b o hb e => kb8 b o hb (kF6.keep b o (hg' b o e hb))) hl8 ?_
    rw [List.size_toArray, hes', List.take_length] at hst
    exact hst
theorem linesTable : True := by
  w_top off
  k_with_none
  k_with "getMethod ref" => ((k_here; (with_reducible show wpAny _ _ (getMethod (Value.ref _) (Str.ofString "search") _) _ _ _); k_dflt (refine' search_meth (by k_asm) (by k_asm) (by k_is) ?_; k_whole)))
  k_with "call builtin:re.Pattern.search" => ((k_here; k_dflt (first
  | (refine' search_name (by k_asm) (by k_asm) (by k_is) (by k_is) (by decide +kernel) (by assumption) (by assumption) ?_; k_whole)
  | (refine' search_val (by k_asm) (by k_asm) (by k_is) (by k_is) (by decide +kernel) (by assumption) (by assumption) ?_; k_whole))))
  k_with "mine:le" => (exact Nat.le_of_ble_eq_true rfl)
  k_with "call builtin:str.lower" => ((k_here; (with_reducible show wpAny _ _ (call (Value.builtin "str.lower") [Value.str _ _]) _ _ _); k_dflt (refine' KXw.lower (by assumption) (by (exact low_fit (by assumption))) ?_; k_whole); intro t' k'))
  k_with "mine:moved" => (((rename Keep _ _ => kp9'); (with_reducible rename Fr _ _ _ _ => kF9); (with_reducible rename News _ _ _ _ => kN9); (replace kF9 := fr_keep kF9 kp9'); (replace kN9 := news_keep kN9 kp9'); (try dsimp only at kF9 kN9)))
  k_with "mine:movedN" => (((rename Keep _ _ => kp9'); (rename (Heap.get? _ _ = none) => hn9'); (rename (Heap.get? _ _ = some _) => hq9'); (with_reducible rename Fr _ _ _ _ => kF9); (with_reducible rename News _ _ _ _ => kN9); (replace kN9 := news_add kF9 (news_keep kN9 kp9') hn9' hq9'); (replace kF9 := fr_keep kF9 kp9'); (clear hn9' hq9'); (try dsimp only at kF9 kN9)))
  k_with "call ref" => ((k_here; (with_reducible show wpAny _ _ (call (Value.ref 291) _ _) _ _ _); k_dflt (refine' at_le (by exact rfl) (by exact rfl) (by walk_at "mine:le") (by walk_at "mine:le") (add_ok _ (by k_asm) (by k_asm) (by k_asm) (by k_asm) (by exact rfl) (by exact rfl) (by first | exact News.get (by k_asm) (by k_mem) | exact Fr.keep (by k_asm) _ _ (by assumption)) (by first | exact News.get (by k_asm) (by k_mem) | exact Fr.keep (by k_asm) _ _ (by assumption)) (news_one (by (with_reducible assumption)) (by k_mem)) (by assumption) (by assumption) (by assumption) (by assumption) (by assumption) ?_); k_whole); intro a9 n9 h9 tk9 t29 t39 kp9 hn9 hq9 hl9 ha9); (with_reducible rename Fr _ _ _ _ => kF9); (with_reducible rename News _ _ _ _ => kN9); (obtain ⟨kF8, kN8, kT8, kg8⟩ := app_facts kF9 kN9 (by assumption) (by assumption) kp9 hn9 hq9 hl9); (clear kF9 kN9))
  k_with "call ref" => ((k_here; (with_reducible show wpAny _ _ (call (Value.ref 305) _ _) _ _ _); k_dflt (refine' at_le (by exact rfl) (by exact rfl) (by walk_at "mine:le") (by walk_at "mine:le") (reply_okw _ (by k_asm) (by k_asm) (by k_asm) (by k_asm) (by exact rfl) (by exact rfl) (by omega) (by omega) ?_); k_whole); intro h9 tk9 t9 kp9; walk_at "mine:moved"))
  k_with "exec For Name Name cons nil" => ((k_here; (with_reducible rename Fr _ _ _ _ => kF9); k_dflt (refine' For_listF kF9 (by exact rfl) ?_; k_whole)))
  trivial
-- room for a contract at its place
-- a written text's lower case is named by a fact
-- behind a contract: the frame's and the ledger's facts at the new heap
-- behind a contract that made an object: its fact joins the ledger

set_option maxHeartbeats 4000000 in
theorem table_ok (w : World) {p : Program} {loose : List Str} {mean : ExcName → Option Value} {mg mb : Str → Option Value} {env : Env} {outer : List Env} {A₀ : Around} {base h₀ : Heap} {L : Addr} {m : Str → Option Value} {s : Shared} {Q E : Value → Shared → Prop}
  (B : Below A₀ base outer h₀) (F : Fr h₀ L s.heap m) (X : (Mine.KK w.params).In h₀) (T : Top p loose mean mg mb h₀) (hf : env.frame = some L) (hke : env.scope.kind = .function)
  {lp : Addr} {nP : Nat} {vs : List Value} {ps : List Int} (hlp : s.heap.get? lp = some (lstO vs nP)) (hi : IntsAre vs ps) (hlen : ps.length ≤ 4) (hr : ∀ a ∈ ps, 0 ≤ a ∧ a < 12)
  (hret : ∀ x d l tk0 nL tups h' tk', Keep s.heap h' → (∀ p ∈ tabL 294 w.params x d l tk0 nL tups, h'.get? p.1 = some p.2 ∧ s.heap.get? p.1 = none) → TupsOf tups (entT ps) → Q (.ref x) { s with heap := h', toks := tk' }) :
  wpAny (model PySem.Challenge.rw_tl0048_02.prog w) (Ar 320 200 env outer) (call (.ref 312) [.ref lp]) Q E s := by
  revert X; k_fill; intro X
  refine wpAny_call ?_
  k_dflt (refine' base_plain (binds := [(Str.ofString "ports", .ref lp)]) ?k1 ?k2 ?k3 ?k5 ?kA ?kF ?kK ?k6 ?k7 ?k8 ?k9 ?kB ?_ ?c2 ?c3 ?c4 ?c5; (case kA => exact rfl); (case kF => assumption); (case kK => assumption); (case k1 => k_asm); (case k2 => k_asm); (case k3 => k_asm); (case k5 => k_asm); (case k6 => k_is); (case k7 => k_is); (case k8 => exact Nat.le_of_ble_eq_true rfl); (case k9 => first | exact BindsTo.of_eq rfl | exact binds_K (by k_in) rfl (by k_is) rfl rfl rfl); (case c5 => decide); (case kB => exact locs rfl); (case c2 => exact rfl); (case c3 => exact rfl); (case c4 => exact rfl))
  intro L' h' F' B' X' T'
  have N' : News s.heap L' h' [] := News.nil
  clear B F X T
  (try dsimp only [List.reverse, List.reverseAux] at F')
  change wpAny _ _ _ _ _ _
  k_fold
  have hl : s.heap.IsList lp vs.toArray := ⟨_, hlp, rfl, _, rfl⟩
  k_steps
  refine list_pack (fun m news i m₁ news₁ => ∃ x d l tk0 nL tups, m (Str.ofString "table") = some (.ref x) ∧ news₁ = tabL 294 w.params x d l tk0 nL tups ∧ TupsOf tups (entT (ps.take i)) ∧ Ov [Str.ofString "port"] m m₁) (by k_asm) (by k_asm) ⟨_, Fr.keep (by k_asm) _ _ hlp, rfl, _, rfl⟩ go_name ⟨_, _, _, _, 0, [], rfl, rfl, trivial, Ov.refl⟩ ?_ ?_ ?_
  · intro i m₁ news₁ h₁ hJ F₁ N₁
    exact ⟨_, F₁.keep _ _ hlp, rfl, _, rfl⟩
  · rintro i v m₁ news₁ h₁ tk₁ I oI hi' ⟨x, d, l, tk0, nL, tups, hx, rfl, htu, ⟨f, rfl⟩⟩ F₁ N₁ hI
    simp only [if_true] at hx
    cases hx
    obtain ⟨q, tq, hq, rfl⟩ := ints_at hi (i := i) (v := v) (by simpa using hi')
    obtain ⟨q0, q1⟩ := hr q (List.mem_of_getElem? hq)
    obtain ⟨e1, e2, e3, e4, e5, e6, e7, e8⟩ := pn_facts q0 q1
    have e5' : (pnF q).length ≤ 1000 := by omega
    have e7' : (rpF q).length ≤ 1000 := by omega
    have hcl : (tups.map fun p => Value.ref p.1).length ≤ 1000 := by
      have := htu.length
      unfold entT at this
      rw [List.length_map, List.length_take] at this
      rw [List.length_map]
      omega
    k_steps
    (rename Fr _ _ _ _ => kF8); (rename News _ _ _ _ => kN8); (rename TupsOf _ _ => kT8); (rename (∀ p ∈ _, _ ≠ _) => kg8)
    obtain ⟨hlt, rfl⟩ := List.getElem?_eq_some_iff.mp hq
    refine ⟨_, _, _, _, rfl, kF8, kN8, kg8, ⟨_, _, _, _, _, _, rfl, rfl, ?_, Ov.put (by decide) ⟨f, rfl⟩⟩⟩
    rw [List.take_succ_eq_append_getElem hlt, ent_snoc]
    exact kT8
  · rintro m₁ news₁ h₁ tk₁ ⟨x, d, l, tk0, nL, tups, hx, rfl, htu, ⟨f, rfl⟩⟩ F₁ N₁
    simp only [if_true] at hx
    cases hx
    have hvl := ints_len hi
    rw [List.size_toArray, hvl, List.take_length] at htu
    dsimp only
    k_steps
    exact hret _ _ _ _ _ _ _ _ F₁.keep (fun p hp => ⟨(N₁ p hp).1, (N₁ p hp).2.2⟩) htu
theorem linesPorts : True := by
  w_top off
  k_with_none
  k_with "getMethod ref" => ((k_here; (with_reducible show wpAny _ _ (getMethod (Value.ref _) (Str.ofString "search") _) _ _ _); k_dflt (refine' search_meth (by k_asm) (by k_asm) (by k_is) ?_; k_whole)))
  k_with "call builtin:re.Pattern.search" => ((k_here; k_dflt (first
  | (refine' search_name (by k_asm) (by k_asm) (by k_is) (by k_is) (by decide +kernel) (by assumption) (by assumption) ?_; k_whole)
  | (refine' search_val (by k_asm) (by k_asm) (by k_is) (by k_is) (by decide +kernel) (by assumption) (by assumption) ?_; k_whole))))
  k_with "mine:le" => (exact Nat.le_of_ble_eq_true rfl)
  k_with "call builtin:str.lower" => ((k_here; (with_reducible show wpAny _ _ (call (Value.builtin "str.lower") [Value.str _ _]) _ _ _); k_dflt (refine' KXw.lower (by assumption) (by (exact low_fit (by assumption))) ?_; k_whole); intro t' k'))
  k_with "mine:moved" => (((rename Keep _ _ => kp9'); (with_reducible rename Fr _ _ _ _ => kF9); (with_reducible rename News _ _ _ _ => kN9); (replace kF9 := fr_keep kF9 kp9'); (replace kN9 := news_keep kN9 kp9'); (try dsimp only at kF9 kN9)))
  k_with "mine:movedN" => (((rename Keep _ _ => kp9'); (rename (Heap.get? _ _ = none) => hn9'); (rename (Heap.get? _ _ = some _) => hq9'); (with_reducible rename Fr _ _ _ _ => kF9); (with_reducible rename News _ _ _ _ => kN9); (replace kN9 := news_add kF9 (news_keep kN9 kp9') hn9' hq9'); (replace kF9 := fr_keep kF9 kp9'); (clear hn9' hq9'); (try dsimp only at kF9 kN9)))
  k_with "call builtin:str.find" => ((k_here; k_dflt (first | (refine' KXw.find (by assumption) ?_; k_whole) | (refine' find3_known (by assumption) ?_; k_whole)); intro t' k'))
  k_with "call builtin:str.split" => ((k_here; k_dflt (refine' split_known (by assumption) (by k_asm) (by k_asm) (by assumption) (by assumption) ?_; k_whole); intro D' h' k' t1' t2' t3' t4' t5' F' N' l1; (try k_lt l1)))
  k_with "call type:int" => ((k_here; (with_reducible show wpAny _ _ (call (Value.type "int") [Value.str _ _]) _ _ _); k_dflt (refine' int_known (by assumption) (by assumption) ?_; k_whole); intro t' k'))
  k_with "subscriptTail" => ((k_here; (with_reducible show wpAny _ _ (subscriptTail _ _ (Value.ref _) (Value.int _ _)) _ _ _); k_dflt (refine' item_tupleT (by exact tup_base (by k_asm) (by assumption)) (by decide) (by decide) (by rfl) (by rfl) ?_; k_whole)))
  k_with "eval ListComp" => ((k_here; (with_reducible show wpAny _ _ (eval (Expr.ListComp _ _ _ _) _) _ _ _); k_dflt (refine' Comp_list (by exact rfl) (by exact rfl) (by decide) (by exact rfl) (by decide) ?_; k_whole)))
  k_with "call ref" => ((k_here; (with_reducible show wpAny _ _ (call (Value.ref 251) _ _) _ _ _); k_dflt (refine' at_le (by exact rfl) (by exact rfl) (by walk_at "mine:le") (by walk_at "mine:le") (values_ok _ (by k_asm) (by k_asm) (by k_asm) (by k_asm) (by exact rfl) (by exact rfl) (by exact Fr.keep (by k_asm) _ _ (by assumption)) (by exact Fr.keep (by k_asm) _ _ (by assumption)) (by exact Fr.keep (by k_asm) _ _ (by assumption)) (by exact Tups.keep (Fr.keep (by k_asm)) (by assumption)) (by assumption) ?_); k_whole); intro q9 n9 vs9 h9 tk9 kp9 hn9 hq9 hst9; walk_at "mine:movedN"))
  k_with "call ref" => ((k_here; (with_reducible show wpAny _ _ (call (Value.ref 148) _ _) _ _ _); k_dflt (refine' at_le (by exact rfl) (by exact rfl) (by walk_at "mine:le") (by walk_at "mine:le") (parse_ok _ (by k_asm) (by exact (by assumption : ∀ h', Keep _ h' → Fr _ _ h' _) _ (Fr.keep (by k_asm))) (by k_asm) (by k_asm) (by exact rfl) (by exact rfl) (by first | exact News.get (by k_asm) (by k_mem) | exact Fr.keep (by k_asm) _ _ (by assumption)) (by assumption) ?_); k_whole); intro q9 t19 t29 h9 tk9 kp9 hn9 hq9; walk_at "mine:movedN"))
  trivial
-- room for a contract at its place
-- a written text's lower case is named by a fact
-- behind a contract: the frame's and the ledger's facts at the new heap
-- behind a contract that made an object: its fact joins the ledger


theorem strs_len : ∀ {vs : List Value} {ys : List Str}, StrsAre vs ys → vs.length = ys.length
  | _, _, .nil => rfl
  | _, _, .cons _ _ h => by rw [List.length_cons, List.length_cons, strs_len h]
theorem strs_at : ∀ {vs : List Value} {ys : List Str} {i : Nat} {v : Value}, StrsAre vs ys → vs[i]? = some v → ∃ x t, ys[i]? = some x ∧ v = .str x t
  | _, _, 0, _, .cons x t _, e => by simp at e; exact ⟨x, t, rfl, e.symm⟩
  | _, _, i + 1, _, .cons _ _ h, e => by
    obtain ⟨x, t, a, b⟩ := strs_at h (i := i) (by simpa using e)
    exact ⟨x, t, by simpa using a, b⟩
set_option maxHeartbeats 4000000 in
theorem ports_ok (w : World) {p : Program} {loose : List Str} {mean : ExcName → Option Value} {mg mb : Str → Option Value} {env : Env} {outer : List Env} {A₀ : Around} {base h₀ : Heap} {L : Addr} {m : Str → Option Value} {s : Shared} {Q E : Value → Shared → Prop}
  (B : Below A₀ base outer h₀) (F : Fr h₀ L s.heap m) (X : (Mine.KK w.params).In h₀) (T : Top p loose mean mg mb h₀) (hf : env.frame = some L) (hke : env.scope.kind = .function)
  {x d l : Addr} {tk0 : Tok} {nL : Nat} {items : List Value} {ps : List Int}
  (hx : s.heap.get? x = some (instObj 294 d)) (hd : s.heap.get? d = some (dictOf [{ hash := PyData.keyHash w.params (Str.ofString "_headers"), key := .str (Str.ofString "_headers") tk0, val := .ref l }] 1)) (hlst : s.heap.get? l = some (lstO items nL))
  (ht : Tups s.heap items (entT ps)) (hlen : ps.length ≤ 5) (hr : ∀ a ∈ ps, 0 ≤ a ∧ a < 12)
  (hret : ∀ a n vs h' tk', Keep s.heap h' → s.heap.get? a = none → h'.get? a = some (lstO vs n) → IntsAre vs ps → Q (.ref a) { s with heap := h', toks := tk' }) :
  wpAny (model PySem.Challenge.rw_tl0048_02.prog w) (Ar 330 300 env outer) (call (.ref 317) [.ref x]) Q E s := by
  revert X; k_fill; intro X
  refine wpAny_call ?_
  k_dflt (refine' base_plain (binds := [(Str.ofString "table", .ref x)]) ?k1 ?k2 ?k3 ?k5 ?kA ?kF ?kK ?k6 ?k7 ?k8 ?k9 ?kB ?_ ?c2 ?c3 ?c4 ?c5; (case kA => exact rfl); (case kF => assumption); (case kK => assumption); (case k1 => k_asm); (case k2 => k_asm); (case k3 => k_asm); (case k5 => k_asm); (case k6 => k_is); (case k7 => k_is); (case k8 => exact Nat.le_of_ble_eq_true rfl); (case k9 => first | exact BindsTo.of_eq rfl | exact binds_K (by k_in) rfl (by k_is) rfl rfl rfl); (case c5 => decide); (case kB => exact locs rfl); (case c2 => exact rfl); (case c3 => exact rfl); (case c4 => exact rfl))
  intro L' h' F' B' X' T'
  have N' : News s.heap L' h' [] := News.nil
  clear B F X T
  (try dsimp only [List.reverse, List.reverseAux] at F')
  change wpAny _ _ _ _ _ _
  k_fold
  have hil : items.length ≤ 1000 := by
    have := Tups.length ht
    unfold entT at this
    rw [List.length_map] at this
    omega
  k_steps
  (rename Fr _ _ _ _ => kF9); (rename News _ _ _ _ => kN9); (rename StrsAre _ _ => hst9); (rename (List Value) => vs9)
  have hvl := strs_len hst9
  have hvz : vs9.toArray.size = ps.length := by
    rw [List.size_toArray, hvl, List.length_map]
    unfold entT
    rw [List.length_map]
  refine ⟨_, _, rfl, News.isList kN9 (.head _), by rw [hvz, sizeLine_eq]; omega, go_name, fun i ys news => news = [] ∧ IntsAre ys (ps.take i), ⟨rfl, .nil⟩, ?_, ?_⟩
  · rintro hb C D I oI i v ys nD news mC h₁ tk₁ E' kb hx' ⟨rfl, hst⟩ FC NC hne hID
    obtain ⟨nm, tv, hnm, rfl⟩ := strs_at hst9 (i := i) (v := v) (by simpa using hx')
    obtain ⟨q, hq, hqe⟩ : ∃ q, ps[i]? = some q ∧ nm = rpF q := by
      rw [List.getElem?_map] at hnm
      cases e : (entT ps)[i]? with
      | none => rw [e] at hnm; cases hnm
      | some e1 =>
        obtain ⟨q, h1, h2⟩ := ent_at e
        rw [e] at hnm
        simp only [Option.map_some, Option.some.injEq] at hnm
        exact ⟨q, h1, by rw [← hnm, h2]⟩
    subst hqe
    obtain ⟨q0, q1⟩ := hr q (List.mem_of_getElem? hq)
    have hR := rp_facts q0 q1
    have kFF : ∀ h', Keep hb h' → Fr s.heap L' h' _ := fun h' k => fr_keep (fr_keep kF9 kb) k
    have kb2 : Keep s.heap hb := Keep.trans kF9.keep kb
    have Xb : (Mine.KK w.params).In hb := Frag.In.keeps (by k_asm) kb2
    have Tb : Top p loose mean mg mb hb := Top.keeps (by k_asm) kb2
    clear kF9 kN9
    refine name_assign FC NC rfl rfl fun h₂ F₂ N₂ => ?_
    clear FC NC
    k_steps
    any_goals (show CompEnd _ _ _ _ _ _ _ _ _; (rename Fr _ _ _ _ => kF8); (rename News _ _ _ _ => kN8); refine ⟨_, _, _, [], rfl, kF8, News.tail' (News.tail' kN8), hne, rfl, ?_⟩; obtain ⟨hlt, rfl⟩ := List.getElem?_eq_some_iff.mp hq; rw [List.take_succ_eq_append_getElem hlt]; exact IntsAre.append hst (.cons _ _ .nil))
    all_goals (first | exact [] | exact (0 : Nat) | exact (Str.ofString "") | exact Value.none | exact default)
  · rintro ys D nD news h9 tk9 ⟨rfl, hst⟩ kk hD hD' hnews
    rw [hvz, List.take_length] at hst
    refine hret D nD ys h9 tk9 (Keep.trans kF9.keep kk) ?_ hD' hst
    cases e : s.heap.get? D with
    | none => rfl
    | some o =>
      have := kF9.keep _ _ e
      rw [this] at hD
      cases hD
theorem linesMove : True := by
  w_top off
  k_with_none
  k_with "getMethod ref" => ((k_here; (with_reducible show wpAny _ _ (getMethod (Value.ref _) (Str.ofString "search") _) _ _ _); k_dflt (refine' search_meth (by k_asm) (by k_asm) (by k_is) ?_; k_whole)))
  k_with "call builtin:re.Pattern.search" => ((k_here; k_dflt (first
  | (refine' search_name (by k_asm) (by k_asm) (by k_is) (by k_is) (by decide +kernel) (by assumption) (by assumption) ?_; k_whole)
  | (refine' search_val (by k_asm) (by k_asm) (by k_is) (by k_is) (by decide +kernel) (by assumption) (by assumption) ?_; k_whole))))
  k_with "mine:le" => (exact Nat.le_of_ble_eq_true rfl)
  k_with "call builtin:str.lower" => ((k_here; (with_reducible show wpAny _ _ (call (Value.builtin "str.lower") [Value.str _ _]) _ _ _); k_dflt (refine' KXw.lower (by assumption) (by (exact low_fit (by assumption))) ?_; k_whole); intro t' k'))
  k_with "mine:moved" => (((rename Keep _ _ => kp9'); (with_reducible rename Fr _ _ _ _ => kF9); (with_reducible rename News _ _ _ _ => kN9); (replace kF9 := fr_keep kF9 kp9'); (replace kN9 := news_keep kN9 kp9'); (try dsimp only at kF9 kN9)))
  k_with "mine:movedN" => (((rename Keep _ _ => kp9'); (rename (Heap.get? _ _ = none) => hn9'); (rename (Heap.get? _ _ = some _) => hq9'); (with_reducible rename Fr _ _ _ _ => kF9); (with_reducible rename News _ _ _ _ => kN9); (replace kN9 := news_add kF9 (news_keep kN9 kp9') hn9' hq9'); (replace kF9 := fr_keep kF9 kp9'); (clear hn9' hq9'); (try dsimp only at kF9 kN9)))
  k_with "mine:one" => ((first | (k_unfold; (try dsimp only)) | (k_end; wrow_close) | walk1 | (dsimp only; walk1)))
  k_with "exec Assign cons ListComp" => ((k_here; (with_reducible show wpAny _ _ (exec (Stmt.Assign [Expr.Name _ _] (Expr.ListComp _ _ _ _) _) _) _ _ _); k_dflt (refine' Comp_assign (by exact rfl) (by with_unfolding_all rfl) (by with_unfolding_all rfl) (by decide) (by exact rfl) (by decide) ?_; k_whole)))
  k_with "eval ListComp" => ((k_here; (with_reducible show wpAny _ _ (eval (Expr.ListComp _ _ _ _) _) _ _ _); k_dflt (refine' Comp_list (by exact rfl) (by exact rfl) (by decide) (by exact rfl) (by decide) ?_; k_whole)))
  k_with "eval Name" => ((k_here; k_dflt (refine' name_cell (by k_asm) (by with_unfolding_all exact rfl) (by exact rfl) (by decide) (by exact rfl) (by assumption) (by assumption) ?_; k_whole)))
  k_with "call ref" => ((k_here; (with_reducible show wpAny _ _ (call (Value.ref 317) _ _) _ _ _); k_dflt (refine' at_le (by exact rfl) (by exact rfl) (by walk_at "mine:le") (by walk_at "mine:le") (ports_ok _ (by k_asm) (by k_asm) (by k_asm) (by k_asm) (by exact rfl) (by exact rfl) (by first | exact News.get (by k_asm) (by k_mem) | exact Fr.keep (by k_asm) _ _ (by assumption)) (by first | exact News.get (by k_asm) (by k_mem) | exact Fr.keep (by k_asm) _ _ (by assumption)) (by first | exact News.get (by k_asm) (by k_mem) | exact Fr.keep (by k_asm) _ _ (by assumption)) (by first | exact Tups.keep (Fr.keep (by k_asm)) (by assumption) | (walk_at "mine:tups")) (by omega) (by assumption) ?_); k_whole); intro q9 n9 vs9 h9 tk9 kp9 hn9 hq9 hst9; (have hm9 := hn9); walk_at "mine:movedN"))
  k_with "call ref" => ((k_here; (with_reducible show wpAny _ _ (call (Value.ref 241) _ _) _ _ _); k_dflt (refine' at_le (by exact rfl) (by exact rfl) (by walk_at "mine:le") (by walk_at "mine:le") (get_ok _ (by k_asm) (by first | k_asm | exact (by assumption : ∀ h', Keep _ h' → Fr _ _ h' _) _ (Fr.keep (by k_asm))) (by k_asm) (by k_asm) (by exact rfl) (by exact rfl) (by exact Fr.keep (by k_asm) _ _ (by assumption)) (by exact Fr.keep (by k_asm) _ _ (by assumption)) (by first | exact News.get (by k_asm) (by k_mem) | exact Fr.keep (by k_asm) _ _ (by assumption)) (by exact Tups.keep (Fr.keep (by k_asm)) (by assumption)) (by assumption) (by assumption) (by assumption) (by assumption) (by assumption) ?_); k_whole); intro r9 h9 tk9 hg9 kp9; walk_at "mine:moved"; rcases get_ports (by assumption) (by omega) (by omega) hg9 with ⟨he9, t9, hr9⟩ | ⟨he9, hr9⟩ <;> subst hr9))
  k_with "compareOp Eq ref ref" => ((k_here; k_dflt (refine' ke_eq_ints (by exact News.isList (by k_asm) (by k_mem)) (by exact News.isList (by k_asm) (by k_mem)) (by assumption) (by first | assumption | exact IntsAre.nil) (by ke_room) ?_; k_whole)))
  k_with "call builtin:len" => ((k_here; (with_reducible show wpAny _ _ (call (Value.builtin "len") [Value.ref _]) _ _ _); k_dflt (refine' lst_len (by k_asm) (by k_mem) (by assumption) (by first | assumption | omega) ?_; k_whole)))
  k_with "call ref" => ((k_here; (with_reducible show wpAny _ _ (call (Value.ref 305) _ _) _ _ _); k_dflt (refine' at_le (by exact rfl) (by exact rfl) (by walk_at "mine:le") (by walk_at "mine:le") (reply_okw _ (by k_asm) (by k_asm) (by k_asm) (by k_asm) (by exact rfl) (by exact rfl) (by omega) (by omega) ?_); k_whole); intro h9 tk9 t9 kp9; walk_at "mine:moved"))
  k_with "delItem ref str" => ((k_here; k_dflt (refine' delItem_K (by k_asm) (by k_asm) (by k_inst) (by k_is) (by k_is) (by k_is) ?_; k_whole)))
  k_with "call ref" => ((k_here; (with_reducible show wpAny _ _ (call (Value.ref 212) _ _) _ _ _); k_dflt (refine' at_le (by exact rfl) (by exact rfl) (by walk_at "mine:le") (by walk_at "mine:le") (del_ok _ (by k_asm) (by k_asm) (by k_asm) (by k_asm) (by exact rfl) (by exact rfl) (by exact Fr.keep (by k_asm) _ _ (by assumption)) (by exact Fr.keep (by k_asm) _ _ (by assumption)) (by exact Tups.keep (Fr.keep (by k_asm)) (by assumption)) (news_one (by (with_reducible assumption)) (by k_mem)) (by assumption) (by assumption) (by assumption) (by assumption) (by assumption) (by assumption) ?_); k_whole); intro n9 it9 h9 tk9 kb9 hl9 ht9; (with_reducible rename Fr _ _ _ _ => kF9); (with_reducible rename News _ _ _ _ => kN9); k_dflt (have ht8 := Tups.but (News.get kN9 (by k_mem)) (by exact rfl) (fun b o e hb => kb9 b o hb e) ht9); (obtain ⟨kF8, kN8⟩ := led_upd kF9 kN9 (by k_updF) kb9 hl9); (have hil9 := del_len ht9 (by assumption) (by assumption : _ ≤ 1000))))
  k_with "call ref" => ((k_here; (with_reducible show wpAny _ _ (call (Value.ref 291) _ _) _ _ _); k_dflt (refine' at_le (by exact rfl) (by exact rfl) (by walk_at "mine:le") (by walk_at "mine:le") (add_ok _ (by k_asm) (by k_asm) (by k_asm) (by k_asm) (by exact rfl) (by exact rfl) (by first | exact News.get (by k_asm) (by k_mem) | exact Fr.keep (by k_asm) _ _ (by assumption)) (by first | exact News.get (by k_asm) (by k_mem) | exact Fr.keep (by k_asm) _ _ (by assumption)) (news_one (by (with_reducible assumption)) (by k_mem)) (by assumption) (by assumption) (by assumption) (by assumption) (by assumption) ?_); k_whole); intro a9 n9 h9 tk9 t29 t39 kp9 hn9 hq9 hl9 ha9; (with_reducible rename Fr _ _ _ _ => kF9); (with_reducible rename News _ _ _ _ => kN9); (obtain ⟨kF8, kN8⟩ := led_upd kF9 kN9 (by k_updF) kp9 hl9)))
  trivial
-- room for a contract at its place
-- a written text's lower case is named by a fact
-- behind a contract: the frame's and the ledger's facts at the new heap
-- behind a contract that made an object: its fact joins the ledger


set_option maxHeartbeats 8000000 in
theorem move_ok (w : World) {p : Program} {loose : List Str} {mean : ExcName → Option Value} {mg mb : Str → Option Value} {env : Env} {outer : List Env} {A₀ : Around} {base h₀ : Heap} {L : Addr} {m : Str → Option Value} {s : Shared} {Q E : Value → Shared → Prop}
  (B : Below A₀ base outer h₀) (F : Fr h₀ L s.heap m) (X : (Mine.KK w.params).In h₀) (T : Top p loose mean mg mb h₀) (hf : env.frame = some L) (hke : env.scope.kind = .function)
  {x d l : Addr} {tk0 : Tok} {nL : Nat} {items : List Value} {ps : List Int} {step choice : Int} {t1 t2 : Tok}
  (hx : s.heap.get? x = some (instObj 294 d)) (hd : s.heap.get? d = some (dictOf [{ hash := PyData.keyHash w.params (Str.ofString "_headers"), key := .str (Str.ofString "_headers") tk0, val := .ref l }] 1))
  (ht : Tups s.heap items (entT ps))  (N : News h₀ L s.heap [(l, lstO items nL)]) (hlen : ps.length ≤ 4) (hr : ∀ a ∈ ps, 0 ≤ a ∧ a < 12) (hs0 : 1 ≤ step) (hs1 : step ≤ 5)
  (hret : ∀ n' items' h' tk' t', KeepBut l s.heap h' → h'.get? l = some (lstO items' n') → Tups h' items' (entT (moveF ps step choice).1) → Q (.int (moveF ps step choice).2 t') { s with heap := h', toks := tk' }) :
  wpAny (model PySem.Challenge.rw_tl0048_02.prog w) (Ar 325 200 env outer) (call (.ref 322) [.ref x, .int step t1, .int choice t2]) Q E s := by
  revert X; k_fill; intro X
  have hlS := N.get (List.Mem.head _)
  refine wpAny_call ?_
  k_dflt (refine' base_cellsN (news := [(l, lstO items nL)]) (binds := [(Str.ofString "table", .ref x), (Str.ofString "step", .int step t1), (Str.ofString "choice", .int choice t2)]) ?k1 ?k2 ?k3 ?kN ?k5 ?kA ?kF ?kK ?k6 ?k7 ?k8 ?k9 ?kB ?kD ?_ ?c2 ?c3 ?c4; (case kA => exact rfl); (case kF => assumption); (case kK => assumption); (case k1 => k_asm); (case k2 => k_asm); (case k3 => k_asm); (case kN => assumption); (case k5 => k_asm); (case k6 => k_is); (case k7 => k_is); (case k8 => exact Nat.le_of_ble_eq_true rfl); (case k9 => first | exact BindsTo.of_eq rfl | exact binds_K (by k_in) rfl (by k_is) rfl rfl rfl); (case kB => exact rfl); (case kD => decide +kernel); (case c2 => exact rfl); (case c3 => exact rfl); (case c4 => exact rfl))
  intro g L' h' tk' cells' hg hDl F' N' Y' B' X' T'
  clear B F X T N
  (try dsimp only at F')
  (try simp only [List.cons_append, List.nil_append] at N')
  change wpAny _ _ _ _ _ _
  k_fold
  have hg' : ∀ b o, s.heap.get? b = some o → b ≠ l → g.get? b = some o := fun b o e h => hg b o e (by simpa using h)
  have hgx := hg' _ _ hx (addr_ne hx hlS rfl)
  have hgd := hg' _ _ hd (addr_ne hd hlS rfl)
  have hgt := Tups.but hlS rfl hg' ht
  have hlD : @LT.lt Nat _ l L' := hDl _ (.head _)
  have hil : items.length ≤ 1000 := by
    have := Tups.length ht
    unfold entT at this
    rw [List.length_map] at this
    omega
  have hes := ent_le hr
  obtain ⟨o1, o2, rfl, d1, d2⟩ := CellsAre.two Y'
  clear Y'
  (try dsimp only [List.cons_append, List.nil_append] at N')
  change o1.data = .cell (some (.int step t1)) at d1
  change o2.data = .cell (some (.ref x)) at d2
  have NE := N'.get (by k_mem : (l, lstO items nL) ∈ _)
  k_steps
  (rename Fr _ _ _ _ => kF7); (rename News _ _ _ _ => kN7); (rename IntsAre _ _ => hst9); (rename (List Value) => vs9)
  have hvl := ints_len hst9
  (rename (Heap.get? _ _ = none) => hq0)
  have hlq : @LT.lt Nat _ _ _ ∨ @GT.gt Nat _ _ _ := fresh_ne NE hq0
  clear hq0 NE
  have x1 := (kN7 _ (.tail _ (.head _))).1
  have x2 := (kN7 _ (.tail _ (.tail _ (.head _)))).1
  have x3 := (kN7 _ (.tail _ (.tail _ (.tail _ (.head _))))).1
  have x4 := kF7.keep _ _ hgx
  have x5 := kF7.keep _ _ hgd
  have x6 := Tups.keep kF7.keep hgt
  refine ⟨_, _, rfl, News.isList kN7 (.head _), by rw [List.size_toArray, hvl, sizeLine_eq]; omega, go_name, fun i ys news => news = [] ∧ IntsAre ys ((ps.take i).filter fun p => decide (step ≤ p) && !decide (p - step ∈ ps)), ⟨rfl, .nil⟩, ?_, ?_⟩
  · rintro hb C D I2 oI2 i2 v ys nD news mC h₁ tk₁ E' kb hx' ⟨rfl, hst⟩ FC NC hne hID
    obtain ⟨q, tq, hq, rfl⟩ := ints_at hst9 (i := i2) (v := v) (by simpa using hx')
    obtain ⟨q0, q1⟩ := hr q (List.mem_of_getElem? hq)
    have y1 := kb _ _ x1
    have y2 := kb _ _ x2
    have y3 := kb _ _ x3
    have y4 := kb _ _ x4
    have y5 := kb _ _ x5
    have y6 := Tups.keep kb x6
    have kb2 : Keep g hb := Keep.trans kF7.keep kb
    have Xb : (Mine.KK w.params).In hb := Frag.In.keeps X' kb2
    have Tb : Top p loose mean mg mb hb := Top.keeps T' kb2
    have kFF : ∀ h', Keep hb h' → Fr g L' h' _ := fun h' k => fr_keep (fr_keep kF7 kb) k
    clear kF7 kN7 x1 x2 x3 x4 x5 x6
    refine name_assign FC NC rfl rfl fun h₂ F₂ N₂ => ?_
    clear FC NC
    by_cases hge : step ≤ q
    · obtain ⟨e1, e2, e3, e4, e5, e6, e7, e8⟩ := pn_facts (p := q - step) (by omega) (by omega)
      have e6' : (pqF (q - step)).length ≤ 1000 := by omega
      have e5' : (pnF (q - step)).length ≤ 1048576 := by omega
      k_steps
      any_goals (show CompEnd _ _ _ _ _ _ _ _ _; (rename Fr _ _ _ _ => kF8); (rename News _ _ _ _ => kN8); refine ⟨_, _, _, [], rfl, kF8, kN8, hne, rfl, ?_⟩; obtain ⟨hlt, rfl⟩ := List.getElem?_eq_some_iff.mp hq; rw [List.take_succ_eq_append_getElem hlt, List.filter_append])
      any_goals (first | (rw [List.filter_cons_of_pos (by simp only [Bool.and_eq_true, Bool.not_eq_true', decide_eq_true_eq, decide_eq_false_iff_not]; exact ⟨hge, by assumption⟩)]; exact IntsAre.append hst (.cons _ _ .nil)) | (rw [List.filter_cons_of_neg (by simp only [Bool.and_eq_true, Bool.not_eq_true', decide_eq_true_eq, decide_eq_false_iff_not]; exact fun h => h.2 (by assumption))]; simpa using hst))
      all_goals (first | exact [] | exact (0 : Nat) | exact (Str.ofString "") | exact Value.none | exact default)
    · k_steps
      any_goals (show CompEnd _ _ _ _ _ _ _ _ _; (rename Fr _ _ _ _ => kF8); (rename News _ _ _ _ => kN8); refine ⟨_, _, _, [], rfl, kF8, kN8, hne, rfl, ?_⟩; obtain ⟨hlt, rfl⟩ := List.getElem?_eq_some_iff.mp hq; rw [List.take_succ_eq_append_getElem hlt, List.filter_append])
      any_goals (rw [List.filter_cons_of_neg (by simp only [Bool.and_eq_true, Bool.not_eq_true', decide_eq_true_eq, decide_eq_false_iff_not]; exact fun h => hge h.1)]; simpa using hst)
      all_goals (first | exact [] | exact (0 : Nat) | exact (Str.ofString "") | exact Value.none | exact default)
  · rintro ys D nD news h9 tk9 C mC ⟨rfl, hst⟩ kk hD hD' hnews hC hCD hns
    refine local_done kF7 kN7 kk hD hD' hC hCD hns (by exact rfl) (by exact rfl) fun h3 tk3 F3 N3 => ?_
    rw [List.size_toArray, hvl, List.take_length] at hst
    change IntsAre ys (ableF ps step) at hst
    have hDl2 := Nat.lt_or_gt_of_ne (a := l) (b := D) fun e => by
      rw [← e, x3] at hD
      cases hD
    clear kF7 kN7 x1 x2 x3 x4 x5 x6 hnews hD hD' kk hC hns
    have hal : (ableF ps step).length ≤ 4 := Nat.le_trans (List.length_filter_le _ _) hlen
    have har : ∀ a ∈ ableF ps step, step ≤ a ∧ a < 12 := fun a ha => by
      have h1 := List.mem_filter.mp ha
      simp only [Bool.and_eq_true, decide_eq_true_eq] at h1
      exact ⟨h1.2.1, (hr a h1.1).2⟩
    have hmv : moveF ps step choice = if ableF ps step = [] then (ps, 0) else (ps.filter (fun p => decide (p ≠ (ableF ps step).getD (Int.fmod choice (ableF ps step).length).toNat 0)) ++ [(ableF ps step).getD (Int.fmod choice (ableF ps step).length).toNat 0 - step], 1) := rfl
    rw [hmv] at hret
    generalize ableF ps step = ab at *
    by_cases hab : ab = []
    · subst hab
      rw [if_pos rfl] at hret
      k_steps
      (rename Fr _ _ _ _ => kF8); (rename News _ _ _ _ => kN8)
      exact hret nL items _ _ _ (fun b o hb e => kF8.keep b o (hg' b o e hb)) (kN8.get (by k_mem)) (Tups.keep kF8.keep hgt)
    · rw [if_neg hab] at hret
      have hap : 0 < ab.length := List.length_pos_iff.mpr hab
      have hf0 := fmod_lo (a := choice) (b := (ab.length : Int)) (by omega)
      have hf1 := fmod_hi (a := choice) (b := (ab.length : Int)) (by omega)
      have hqm : ab.getD (Int.fmod choice (ab.length : Int)).toNat 0 ∈ ab := by
        rw [List.getD_eq_getElem?_getD, List.getElem?_eq_getElem (by omega)]
        exact List.getElem_mem _
      k_steps
      obtain ⟨hq0, hq1⟩ := har _ hqm
      generalize ab.getD (Int.fmod choice (ab.length : Int)).toNat 0 = q at *
      obtain ⟨e1, e2, e3, e4, e5, e6, e7, e8⟩ := pn_facts (p := q) (by omega) hq1
      obtain ⟨u1, u2, u3, u4, u5, u6, u7, u8⟩ := pn_facts (p := q - step) (by omega) (by omega)
      have e6' : (pqF q).length ≤ 1000 := by omega
      have e5' : (pnF q).length ≤ 1048576 := by omega
      have u5' : (pnF (q - step)).length ≤ 1000 := by omega
      have u7' : (rpF (q - step)).length ≤ 1000 := by omega
      k_steps
      (rename Fr _ _ _ _ => kF8); (rename News _ _ _ _ => kN8); (rename (∀ it es, Tups _ it es → Tups _ _ _) => ha8); (rename Keep _ _ => kpr)
      have ht8 := ha8 _ _ (Tups.keep kpr (by assumption : Tups _ _ (List.filter (fun e => Txt.lower e.1 != pnF q) (entT ps))))
      rw [ent_filter hr (by omega) hq1, ← ent_snoc] at ht8
      exact hret _ _ _ _ _ (fun b o hb e => kF8.keep b o (hg' b o e hb)) (kN8.get (by k_mem)) ht8
theorem linesSettle : True := by
  w_top off
  k_with_none
  k_with "getMethod ref" => ((k_here; (with_reducible show wpAny _ _ (getMethod (Value.ref _) (Str.ofString "search") _) _ _ _); k_dflt (refine' search_meth (by k_asm) (by k_asm) (by k_is) ?_; k_whole)))
  k_with "call builtin:re.Pattern.search" => ((k_here; k_dflt (first
  | (refine' search_name (by k_asm) (by k_asm) (by k_is) (by k_is) (by decide +kernel) (by assumption) (by assumption) ?_; k_whole)
  | (refine' search_val (by k_asm) (by k_asm) (by k_is) (by k_is) (by decide +kernel) (by assumption) (by assumption) ?_; k_whole))))
  k_with "mine:le" => (exact Nat.le_of_ble_eq_true rfl)
  k_with "call builtin:str.lower" => ((k_here; (with_reducible show wpAny _ _ (call (Value.builtin "str.lower") [Value.str _ _]) _ _ _); k_dflt (refine' KXw.lower (by assumption) (by (exact low_fit (by assumption))) ?_; k_whole); intro t' k'))
  k_with "mine:moved" => (((rename Keep _ _ => kp9'); (with_reducible rename Fr _ _ _ _ => kF9); (with_reducible rename News _ _ _ _ => kN9); (replace kF9 := fr_keep kF9 kp9'); (replace kN9 := news_keep kN9 kp9'); (try dsimp only at kF9 kN9)))
  k_with "mine:movedN" => (((rename Keep _ _ => kp9'); (rename (Heap.get? _ _ = none) => hn9'); (rename (Heap.get? _ _ = some _) => hq9'); (with_reducible rename Fr _ _ _ _ => kF9); (with_reducible rename News _ _ _ _ => kN9); (replace kN9 := news_add kF9 (news_keep kN9 kp9') hn9' hq9'); (replace kF9 := fr_keep kF9 kp9'); (clear hn9' hq9'); (try dsimp only at kF9 kN9)))
  k_with "mine:one" => ((first | (k_unfold; (try dsimp only)) | (k_end; wrow_close) | walk1 | (dsimp only; walk1)))
  k_with "exec While Compare" => ((k_here; (with_reducible rename Fr _ _ _ _ => kF9); k_dflt (refine' While_inF kF9 ?_)))
  k_with "call ref" => ((k_here; (with_reducible show wpAny _ _ (call (Value.ref 322) _ _) _ _ _); k_dflt (refine' at_le (by exact rfl) (by exact rfl) (by walk_at "mine:le") (by walk_at "mine:le") (move_ok _ (by k_asm) (by k_asm) (by k_asm) (by k_asm) (by exact rfl) (by exact rfl) (by first | exact News.get (by k_asm) (by k_mem) | exact Fr.keep (by k_asm) _ _ (by assumption)) (by first | exact News.get (by k_asm) (by k_mem) | exact Fr.keep (by k_asm) _ _ (by assumption)) (by assumption) (news_one (by (with_reducible assumption)) (by k_mem)) (by omega) (by assumption) (by assumption) (by assumption) ?_); k_whole); intro n9 it9 h9 tk9 t9 kb9 hl9 ht9; (with_reducible rename Fr _ _ _ _ => kF9); (with_reducible rename News _ _ _ _ => kN9); (obtain ⟨kF8, kN8⟩ := led_upd kF9 kN9 (by first | k_updF | exact UpdF.head (by assumption)) kb9 hl9); (obtain ⟨tl9, N9, P9, C9⟩ := tups_led kF8 ht9); (replace kN8 := news_retail kN8 N9); (clear N9)))
  trivial
-- room for a contract at its place
-- a written text's lower case is named by a fact
-- behind a contract: the frame's and the ledger's facts at the new heap
-- behind a contract that made an object: its fact joins the ledger

set_option maxHeartbeats 4000000 in
theorem settle_ok (w : World) {p : Program} {loose : List Str} {mean : ExcName → Option Value} {mg mb : Str → Option Value} {env : Env} {outer : List Env} {A₀ : Around} {base h₀ : Heap} {L : Addr} {m : Str → Option Value} {s : Shared} {Q E : Value → Shared → Prop}
  (B : Below A₀ base outer h₀) (F : Fr h₀ L s.heap m) (X : (Mine.KK w.params).In h₀) (T : Top p loose mean mg mb h₀) (hf : env.frame = some L) (hke : env.scope.kind = .function)
  {x d l : Addr} {tk0 : Tok} {nL : Nat} {items : List Value} {ps : List Int} {step choice : Int} {t1 t2 : Tok}
  (hx : s.heap.get? x = some (instObj 294 d)) (hd : s.heap.get? d = some (dictOf [{ hash := PyData.keyHash w.params (Str.ofString "_headers"), key := .str (Str.ofString "_headers") tk0, val := .ref l }] 1))
  (ht : Tups s.heap items (entT ps)) (N : News h₀ L s.heap [(l, lstO items nL)]) (hlen : ps.length ≤ 4) (hr : ∀ a ∈ ps, 0 ≤ a ∧ a < 12) (hs0 : 1 ≤ step) (hs1 : step ≤ 5)
  (hret : ∀ n qs n' items' h' tk' t', MovesTo step choice ps n qs → ableF qs step = [] → KeepBut l s.heap h' → h'.get? l = some (lstO items' n') → Tups h' items' (entT qs) → Q (.int (n : Int) t') { s with heap := h', toks := tk' }) :
  wpAny (model PySem.Challenge.rw_tl0048_02.prog w) (Ar 322 180 env outer) (call (.ref 329) [.ref x, .int step t1, .int choice t2]) Q E s := by
  revert X; k_fill; intro X
  have hlS := N.get (List.Mem.head _)
  refine wpAny_call ?_
  k_dflt (refine' base_news (news := [(l, lstO items nL)]) (binds := [(Str.ofString "table", .ref x), (Str.ofString "step", .int step t1), (Str.ofString "choice", .int choice t2)]) ?k1 ?k2 ?k3 ?kN ?k5 ?kA ?kF ?kK ?k6 ?k7 ?k8 ?k9 ?kB ?_ ?c2 ?c3 ?c4 ?c5; (case kA => exact rfl); (case kF => assumption); (case kK => assumption); (case k1 => k_asm); (case k2 => k_asm); (case k3 => k_asm); (case kN => assumption); (case k5 => k_asm); (case k6 => k_is); (case k7 => k_is); (case k8 => exact Nat.le_of_ble_eq_true rfl); (case k9 => first | exact BindsTo.of_eq rfl | exact binds_K (by k_in) rfl (by k_is) rfl rfl rfl); (case c5 => decide); (case kB => exact locs rfl); (case c2 => exact rfl); (case c3 => exact rfl); (case c4 => exact rfl))
  intro g L' h' hg F' N' B' X' T'
  clear B F X T N
  (try dsimp only [List.reverse, List.reverseAux] at F')
  change wpAny _ _ _ _ _ _
  k_fold
  have hg' : ∀ b o, s.heap.get? b = some o → b ≠ l → g.get? b = some o := fun b o e h => hg b o e (by simpa using h)
  have hgx := hg' _ _ hx (addr_ne hx hlS rfl)
  have hgd := hg' _ _ hd (addr_ne hd hlS rfl)
  have hgt := Tups.but hlS rfl hg' ht
  iterate 6 (walk_at "mine:one")
  refine while_pack (fun m news n m₁ news₁ => ∃ k qs it nIt tl tm, MovesTo step choice ps k qs ∧ qs.sum ≤ (n : Int) ∧ news₁ = (l, lstO it nIt) :: tl ∧ TupP g tl it (entT qs) ∧ (∀ p ∈ tl, p.2.cls = .type "tuple") ∧ m₁ = fun y => if y = Str.ofString "moves" then some (.int (k : Int) tm) else mapOf [(Str.ofString "choice", Value.int choice t2), (Str.ofString "step", Value.int step t1), (Str.ofString "table", Value.ref x)] y) ps.sum.toNat (by k_asm) (by k_asm) ⟨0, ps, items, nL, [], _, .zero, by have := sum_nonneg hr; omega, rfl, fun h k _ => Tups.keep k hgt, (fun _ h => nomatch h), rfl⟩ ?_
  · rintro n m₁ news₁ h₁ tk₁ F₁ N₁ ⟨k, qs, it, nIt, tl, tm, hmv, hsum, rfl, hP, hC, rfl⟩
    obtain ⟨q1, q2, q3⟩ := moves_facts hr hs0 hmv
    have htq : Tups h₁ it (entT qs) := hP h₁ F₁.keep fun p hp => (N₁ p (.tail _ hp)).1
    have hnl : ∀ p ∈ tl, p.1 ≠ l := led_ne (News.tail' N₁) (N₁ _ (.head _)).1 rfl hC
    have hone := move_one (qs := qs) (step := step) (choice := choice)
    by_cases hab : ableF qs step = []
    · rw [if_pos hab] at hone
      have hm1 : (moveF qs step choice).1 = qs := by unfold moveF; rw [if_pos hab]
      k_steps
      · exfalso; omega
      · (rename Fr _ _ _ _ => kF8); (rename (Tups _ _ (entT (moveF _ _ _).1)) => ht8); (rename (Heap.get? _ l = some _) => hl8)
        rw [hm1] at ht8
        exact hret k qs _ _ _ _ _ hmv hab (fun b o hb e => kF8.keep b o (hg' b o e hb)) hl8 ht8
    · rw [if_neg hab] at hone
      obtain ⟨r1, r2, r3⟩ := move_facts (choice := choice) q1 hs0 hab
      have r4 := sum_nonneg r1
      k_steps
      · (rename Fr _ _ _ _ => kF8); (rename News _ _ _ _ => kN8); (rename TupP _ _ _ _ => P9); (rename (∀ p ∈ _, Obj.cls _ = _) => C9)
        cases n with
        | zero => exfalso; omega
        | succ n =>
          refine WhileStep.intro (n' := n) kF8 kN8 (by omega) ⟨k + 1, _, _, _, _, _, .succ hmv hab, by omega, rfl, P9, C9, put_twice⟩
      · exfalso; omega
theorem linesRows : True := by
  w_top off
  k_with_none
  k_with "getMethod ref" => ((k_here; (with_reducible show wpAny _ _ (getMethod (Value.ref _) (Str.ofString "search") _) _ _ _); k_dflt (refine' search_meth (by k_asm) (by k_asm) (by k_is) ?_; k_whole)))
  k_with "call builtin:re.Pattern.search" => ((k_here; k_dflt (first
  | (refine' search_name (by k_asm) (by k_asm) (by k_is) (by k_is) (by decide +kernel) (by assumption) (by assumption) ?_; k_whole)
  | (refine' search_val (by k_asm) (by k_asm) (by k_is) (by k_is) (by decide +kernel) (by assumption) (by assumption) ?_; k_whole))))
  k_with "mine:le" => (exact Nat.le_of_ble_eq_true rfl)
  k_with "call builtin:str.lower" => ((k_here; (with_reducible show wpAny _ _ (call (Value.builtin "str.lower") [Value.str _ _]) _ _ _); k_dflt (refine' KXw.lower (by assumption) (by (exact low_fit (by assumption))) ?_; k_whole); intro t' k'))
  k_with "mine:moved" => (((rename Keep _ _ => kp9'); (with_reducible rename Fr _ _ _ _ => kF9); (with_reducible rename News _ _ _ _ => kN9); (replace kF9 := fr_keep kF9 kp9'); (replace kN9 := news_keep kN9 kp9'); (try dsimp only at kF9 kN9)))
  k_with "mine:movedN" => (((rename Keep _ _ => kp9'); (rename (Heap.get? _ _ = none) => hn9'); (rename (Heap.get? _ _ = some _) => hq9'); (with_reducible rename Fr _ _ _ _ => kF9); (with_reducible rename News _ _ _ _ => kN9); (replace kN9 := news_add kF9 (news_keep kN9 kp9') hn9' hq9'); (replace kF9 := fr_keep kF9 kp9'); (clear hn9' hq9'); (try dsimp only at kF9 kN9)))
  k_with "eval ListComp" => ((k_here; (with_reducible show wpAny _ _ (eval (Expr.ListComp _ _ _ _) _) _ _ _); k_dflt (refine' Comp_list (by exact rfl) (by exact rfl) (by decide) (by exact rfl) (by decide) ?_; k_whole)))
  k_with "eval ListComp" => ((k_here; (with_reducible show wpAny _ _ (eval (Expr.ListComp _ [⟨Expr.Name _ _, Expr.Call (Expr.Name (Str.ofString "range") _) _ _ _, _, _⟩] _ _) _) _ _ _); k_dflt (refine' Comp_range (by exact rfl) (by exact rfl) (by decide) (by exact rfl) (by decide) ?_; k_whole)))
  k_with "eval Name" => ((k_here; k_dflt (refine' name_cell (by k_asm) (by with_unfolding_all exact rfl) (by exact rfl) (by decide) (by exact rfl) (by assumption) (by assumption) ?_; k_whole)))
  k_with "call builtin:len" => ((k_here; (with_reducible show wpAny _ _ (call (Value.builtin "len") [Value.ref _]) _ _ _); k_dflt (refine' lst_len (by k_asm) (by k_mem) (by assumption) (by first | assumption | omega) ?_; k_whole)))
  trivial
-- room for a contract at its place
-- a written text's lower case is named by a fact
-- behind a contract: the frame's and the ledger's facts at the new heap
-- behind a contract that made an object: its fact joins the ledger

set_option maxHeartbeats 4000000 in
theorem rows_ok (w : World) {p : Program} {loose : List Str} {mean : ExcName → Option Value} {mg mb : Str → Option Value} {env : Env} {outer : List Env} {A₀ : Around} {base h₀ : Heap} {L : Addr} {m : Str → Option Value} {s : Shared} {Q E : Value → Shared → Prop}
  (B : Below A₀ base outer h₀) (F : Fr h₀ L s.heap m) (X : (Mine.KK w.params).In h₀) (T : Top p loose mean mg mb h₀) (hf : env.frame = some L) (hke : env.scope.kind = .function)
  {lp : Addr} {nP : Nat} {vs : List Value} {ps : List Int} (hlp : s.heap.get? lp = some (lstO vs nP)) (hi : IntsAre vs ps) (hlen : ps.length ≤ 20)
  (hret : ∀ a n ys os h' tk', Keep s.heap h' → s.heap.get? a = none → h'.get? a = some (lstO ys n) → os.Perm ps → os.Pairwise (· ≤ ·) → IntsAre ys (rowsF os) → Q (.ref a) { s with heap := h', toks := tk' }) :
  wpAny (model PySem.Challenge.rw_tl0048_02.prog w) (Ar 340 400 env outer) (call (.ref 339) [.ref lp]) Q E s := by
  revert X; k_fill; intro X
  refine wpAny_call ?_
  k_dflt (refine' base_cells (binds := [(Str.ofString "ports", .ref lp)]) ?k1 ?k2 ?k3 ?k5 ?kA ?kF ?kK ?k6 ?k7 ?k8 ?k9 ?kB ?kD ?_ ?c2 ?c3 ?c4; (case kA => exact rfl); (case kF => assumption); (case kK => assumption); (case k1 => k_asm); (case k2 => k_asm); (case k3 => k_asm); (case k5 => k_asm); (case k6 => k_is); (case k7 => k_is); (case k8 => exact Nat.le_of_ble_eq_true rfl); (case k9 => first | exact BindsTo.of_eq rfl | exact binds_K (by k_in) rfl (by k_is) rfl rfl rfl); (case kB => exact rfl); (case kD => decide +kernel); (case c2 => exact rfl); (case c3 => exact rfl); (case c4 => exact rfl))
  intro L' h' tk' cells' F' N' Y' B' X' T'
  clear B F X T
  (try dsimp only at F')
  (try simp only [List.cons_append, List.nil_append] at N')
  change wpAny _ _ _ _ _ _
  k_fold
  obtain ⟨o1, rfl, d1⟩ := CellsAre.one Y'
  change o1.data = .cell none at d1
  clear Y'
  have hl : s.heap.IsList lp vs.toArray := ⟨_, hlp, rfl, _, rfl⟩
  k_steps
  (rename Fr _ _ _ _ => kF7); (rename News _ _ _ _ => kN7); (rename (Obj.data _ = Data.cell (some (Value.ref _))) => d4)
  (rename IsRange _ _ _ _ _ _ _ _ => hr9); (rename List.Perm _ _ => hperm); (rename List.Pairwise _ _ => hsort)
  have hol := hperm.length_eq
  have x4 := (kN7 _ (.tail _ (.head _))).1
  have x5 := (kN7 _ (.head _)).1
  rename (List Int) => os
  have hio := (by assumption : IntsAre _ os)
  refine ⟨_, _, _, _, _, _, rfl, hr9, ⟨by decide, by decide, by omega, by omega⟩, by rw [sizeLine_eq]; omega, fun i ys news => news = [] ∧ IntsAre ys ((List.range i).map fun (k : Nat) => os.getD k 0 - (k : Int)), ⟨rfl, .nil⟩, ?_, ?_⟩
  · rintro hb C D2 I2 oI2 i2 tv zs nD2 news mC h₁ tk₁ E' kb hi2 ⟨rfl, hst2⟩ FC NC hne hID
    have y4 := kb _ _ x4
    have hl2 : hb.IsList _ _ := ⟨_, kb _ _ x5, rfl, _, rfl⟩
    rw [show (0 : Int) + (i2 : Int) = (i2 : Int) from Int.zero_add _]
    have hik : (i2 : Int) < os.length := by omega
    have hi0 : (0 : Int) ≤ (i2 : Int) := Int.natCast_nonneg i2
    clear kF7 kN7 x4 x5
    refine name_assign FC NC rfl rfl fun h₂ F₂ N₂ => ?_
    clear FC NC
    k_steps
    any_goals (show CompEnd _ _ _ _ _ _ _ _ _; (rename Fr _ _ _ _ => kF8); (rename News _ _ _ _ => kN8); refine ⟨_, _, _, [], rfl, kF8, kN8, hne, rfl, ?_⟩; simp only [Int.toNat_natCast] at *; rw [List.range_succ, List.map_append]; exact IntsAre.append hst2 (.cons _ _ .nil))
    all_goals (first | exact [] | exact (0 : Nat) | exact (Str.ofString "") | exact Value.none | exact default)
  · rintro zs D2 nD2 news h' tk C mC ⟨rfl, hst2⟩ kk hD2 hD2' hnews hC hCD hns
    refine none_done kk hD2 hD2' hnews hC hCD hns fun h3 kk3 hw3 => ?_
    have kF6 := fr_keep kF7 kk3
    have hw := hw3 _ (.head _)
    rw [show ((os.length : Int) - 0).toNat = os.length from by omega] at hst2
    refine hret D2 nD2 zs os h3 _ kF6.keep ?_ hw.1 hperm hsort hst2
    cases e : s.heap.get? D2 with
    | none => rfl
    | some o =>
      have := kF7.keep _ _ e
      rw [this] at hw
      cases hw.2
theorem linesHooks : True := by
  w_top off
  k_with_none
  k_with "getMethod ref" => ((k_here; (with_reducible show wpAny _ _ (getMethod (Value.ref _) (Str.ofString "search") _) _ _ _); k_dflt (refine' search_meth (by k_asm) (by k_asm) (by k_is) ?_; k_whole)))
  k_with "call builtin:re.Pattern.search" => ((k_here; k_dflt (first
  | (refine' search_name (by k_asm) (by k_asm) (by k_is) (by k_is) (by decide +kernel) (by assumption) (by assumption) ?_; k_whole)
  | (refine' search_val (by k_asm) (by k_asm) (by k_is) (by k_is) (by decide +kernel) (by assumption) (by assumption) ?_; k_whole))))
  k_with "mine:le" => (exact Nat.le_of_ble_eq_true rfl)
  k_with "call builtin:str.lower" => ((k_here; (with_reducible show wpAny _ _ (call (Value.builtin "str.lower") [Value.str _ _]) _ _ _); k_dflt (refine' KXw.lower (by assumption) (by (exact low_fit (by assumption))) ?_; k_whole); intro t' k'))
  k_with "mine:moved" => (((rename Keep _ _ => kp9'); (with_reducible rename Fr _ _ _ _ => kF9); (with_reducible rename News _ _ _ _ => kN9); (replace kF9 := fr_keep kF9 kp9'); (replace kN9 := news_keep kN9 kp9'); (try dsimp only at kF9 kN9)))
  k_with "mine:movedN" => (((rename Keep _ _ => kp9'); (rename (Heap.get? _ _ = none) => hn9'); (rename (Heap.get? _ _ = some _) => hq9'); (with_reducible rename Fr _ _ _ _ => kF9); (with_reducible rename News _ _ _ _ => kN9); (replace kN9 := news_add kF9 (news_keep kN9 kp9') hn9' hq9'); (replace kF9 := fr_keep kF9 kp9'); (clear hn9' hq9'); (try dsimp only at kF9 kN9)))
  k_with "mine:one" => ((first | (k_unfold; (try dsimp only)) | (k_end; wrow_close) | walk1 | (dsimp only; walk1)))
  k_with "exec For Name Call cons nil" => ((k_here; (with_reducible show wpAny _ _ (exec (Stmt.For (Expr.Name _ _) (Expr.Call (Expr.Name (Str.ofString "range") _) _ _ _) _ [] _) _) _ _ _); (with_reducible rename Fr _ _ _ _ => kF9); k_dflt (refine' For_rangeF kF9 (by exact rfl) ?_; k_whole)))
  k_with "eval ListComp" => ((k_here; (with_reducible show wpAny _ _ (eval (Expr.ListComp _ _ _ _) _) _ _ _); k_dflt (refine' Comp_list (by exact rfl) (by exact rfl) (by decide) (by exact rfl) (by decide) ?_; k_whole)))
  k_with "eval Name" => ((k_here; k_dflt (refine' name_cell (by k_asm) (by with_unfolding_all exact rfl) (by exact rfl) (by decide) (by exact rfl) (by assumption) (by assumption) ?_; k_whole)))
  k_with "call builtin:len" => ((k_here; (with_reducible show wpAny _ _ (call (Value.builtin "len") [Value.ref _]) _ _ _); k_dflt (refine' lst_len (by k_asm) (by k_mem) (by assumption) (by first | assumption | omega) ?_; k_whole)))
  k_with "subscriptTail List cons Slice ref ref" => ((k_here; k_dflt (refine kba_turn (value' := PySem.Expr.Name (PySem.Str.ofString "_") ⟨0, 0, 0, 0⟩) (fun _ => rfl) ?_)))
  k_with "subscriptTail BinOp Name Add Subscript Slice ref ref" => ((k_here; k_dflt (refine kba_turn (value' := PySem.Expr.Name (PySem.Str.ofString "_") ⟨0, 0, 0, 0⟩) (fun _ => rfl) ?_)))
  k_with "subscriptTail Name Slice ref ref" => ((k_here; k_dflt (refine' kmk_slice_ints (by k_asm) (by k_asm) (by kmk_list) (by kmk_part) (by kmk_part) (by first | assumption | l_ints) (by first | exact kmk_from (by first | assumption | l_ints) (by omega) | exact kmk_upto (by first | assumption | l_ints) (by omega)) (by exact rfl) ?_ (by with_unfolding_all rfl) (by kmk_pure) (by kmk_size)); intro D9 ws9 h9 F9 N9 l9 hI9 hC9 hL9; (try k_lt l9); (try k_sweep)))
  k_with "mine:shape" => (repeat' (first | with_reducible exact ⟨_, rfl⟩ | with_reducible exact Sh.base rfl | with_reducible exact Ov.refl | refine Sh.put ?_ | refine Sh.skip (by decide) (by decide) ?_ | refine Sh.over (by decide) (by decide) ?_ | refine Ov.put (by decide) ?_ | refine Ov.over (by decide) ?_))
  k_with "mine:ne1" => (first | k_ne | exact ne_cell (by k_asm) (by k_mem) (by k_mem) (by assumption) rfl | exact ne_cell (by k_asm) (by k_mem) (by k_mem) (by assumption) (by assumption))
  k_with "mine:allne" => (first | exact List.forall_mem_nil _ | assumption | (refine' List.forall_mem_cons.mpr ⟨(by walk_at "mine:ne1"), (by walk_at "mine:allne")⟩) | exact trips_ne (by k_asm) (fun p hp => by repeat (first | exact hp | apply List.mem_cons_of_mem)) (by k_mem) (by assumption) (by assumption) | exact tups_ne (by k_asm) (fun p hp => by repeat (first | exact hp | apply List.mem_cons_of_mem)) (by k_mem) (by assumption) (by assumption))
  k_with "mine:upd" => (first | (refine' UpdF.head (by walk_at "mine:allne")) | (refine' UpdF.tail (by walk_at "mine:ne1") (by walk_at "mine:upd")))
  k_with "storeName" => ((k_here; (with_reducible show wpAny _ _ (storeName _ _ _) _ _ _); k_dflt (refine' storeX_C (by k_asm) (by k_asm) (by exact rfl) (by walk_at "mine:upd") (by assumption) ?_ (by exact rfl) (by with_unfolding_all exact rfl); k_whole); intro h' o' F' N' d'))
  k_with "call ref" => ((k_here; (with_reducible show wpAny _ _ (call (Value.ref 339) _ _) _ _ _); k_dflt (refine' at_le (by exact rfl) (by exact rfl) (by walk_at "mine:le") (by walk_at "mine:le") (rows_ok _ (by k_asm) (by k_asm) (by k_asm) (by k_asm) (by exact rfl) (by exact rfl) (by first | exact News.get (by k_asm) (by k_mem) | exact Fr.keep (by k_asm) _ _ (by assumption)) (by assumption) (by omega) ?_); k_whole); intro q9 n9 ys9 os9 h9 tk9 kp9 hn9 hq9 hp9 hs9 hi9; walk_at "mine:movedN"))
  trivial
-- room for a contract at its place
-- a written text's lower case is named by a fact
-- behind a contract: the frame's and the ledger's facts at the new heap
-- behind a contract that made an object: its fact joins the ledger

set_option maxHeartbeats 4000000 in
theorem hooks_ok (w : World) {p : Program} {loose : List Str} {mean : ExcName → Option Value} {mg mb : Str → Option Value} {env : Env} {outer : List Env} {A₀ : Around} {base h₀ : Heap} {L : Addr} {m : Str → Option Value} {s : Shared} {Q E : Value → Shared → Prop}
  (B : Below A₀ base outer h₀) (F : Fr h₀ L s.heap m) (X : (Mine.KK w.params).In h₀) (T : Top p loose mean mg mb h₀) (hf : env.frame = some L) (hke : env.scope.kind = .function)
  {lp : Addr} {nP : Nat} {vs : List Value} {ps : List Int} {step : Int} {t1 : Tok} (hlp : s.heap.get? lp = some (lstO vs nP)) (hi : IntsAre vs ps) (hlen : ps.length ≤ 4) (hs0 : 1 ≤ step) (hs1 : step ≤ 5) (hr : ∀ a ∈ ps, 0 ≤ a ∧ a < 12)
  (hret : ∀ os h' tk' t', Keep s.heap h' → os.Perm ps → os.Pairwise (· ≤ ·) → Q (.int (hookF (rowsF os) step (rowsF os).length) t') { s with heap := h', toks := tk' }) :
  wpAny (model PySem.Challenge.rw_tl0048_02.prog w) (Ar 320 200 env outer) (call (.ref 344) [.ref lp, .int step t1]) Q E s := by
  revert X; k_fill; intro X
  refine wpAny_call ?_
  k_dflt (refine' base_cells (binds := [(Str.ofString "ports", .ref lp), (Str.ofString "step", .int step t1)]) ?k1 ?k2 ?k3 ?k5 ?kA ?kF ?kK ?k6 ?k7 ?k8 ?k9 ?kB ?kD ?_ ?c2 ?c3 ?c4; (case kA => exact rfl); (case kF => assumption); (case kK => assumption); (case k1 => k_asm); (case k2 => k_asm); (case k3 => k_asm); (case k5 => k_asm); (case k6 => k_is); (case k7 => k_is); (case k8 => exact Nat.le_of_ble_eq_true rfl); (case k9 => first | exact BindsTo.of_eq rfl | exact binds_K (by k_in) rfl (by k_is) rfl rfl rfl); (case kB => exact rfl); (case kD => decide +kernel); (case c2 => exact rfl); (case c3 => exact rfl); (case c4 => exact rfl))
  intro L' h' tk' cells' F' N' Y' B' X' T'
  clear B F X T
  (try dsimp only at F')
  (try simp only [List.cons_append, List.nil_append] at N')
  change wpAny _ _ _ _ _ _
  k_fold
  obtain ⟨o1, rfl, d1⟩ := CellsAre.one Y'
  change o1.data = .cell none at d1
  clear Y'
  iterate 40 (first | (show wpAny _ _ (call (Value.builtin "len") [.ref _]) _ _ _; skip) | (walk_at "mine:one"))
  (rename List.Perm _ _ => hperm); (rename List.Pairwise _ _ => hsort)
  (rename IntsAre _ (rowsF _) => hri)
  have hrl : ∀ os : List Int, (rowsF os).length = os.length := fun os => by unfold rowsF; rw [List.length_map, List.length_range]
  have hol := hperm.length_eq
  rename (List Int) => os
  have hret' := fun h' tk' t' kk => hret os h' tk' t' kk hperm hsort
  have hrr : ∀ (i : Nat), i < os.length → -(i : Int) ≤ (rowsF os).getD i 0 ∧ (rowsF os).getD i 0 ≤ 12 := fun i hi => by
    have : (rowsF os).getD i 0 = os.getD i 0 - (i : Int) := by
      unfold rowsF
      rw [List.getD_eq_getElem?_getD, List.getElem?_map, List.getElem?_range hi]
      rfl
    have hm : os.getD i 0 ∈ os := by
      rw [List.getD_eq_getElem?_getD, List.getElem?_eq_getElem hi]
      exact List.getElem_mem _
    have := hr _ (hperm.mem_iff.mp hm)
    omega
  rw [← hrl os] at hol hrr
  generalize rowsF os = rw9 at *
  clear hret hperm hsort hrl
  have hr4 : rw9.length ≤ 4 := by omega
  k_steps
  (rename IsRange _ _ _ _ _ _ _ _ => hr9)
  refine range_pack (fun m news i m₁ news₁ => (∃ q o ov, o.data = .cell ov ∧ news.headD (0, lstO [] 0) = q ∧ news₁ = [q, (L' + 1, o)]) ∧ ∃ t, Sh (Str.ofString "count") [Str.ofString "k", Str.ofString "below"] m (.int (hookF rw9 step i) t) m₁) hr9 (by decide) (by decide) (by omega) (by omega) (by k_asm) (by k_asm) ?_ ?_ ?_
  · exact ⟨⟨_, _, _, d1, rfl, rfl⟩, _, Sh.base rfl⟩
  · rintro i tv m₁ news₁ h₁ tk₁ I oI hi' ⟨⟨qq, o, ov, hov, rfl, rfl⟩, ton, f, rfl⟩ F₁ N₁ hI
    have hik : (i : Int) < rw9.length := by omega
    (try dsimp only [List.headD] at F₁ N₁ hI)
    rw [show (0 : Int) + (i : Int) = (i : Int) from Int.zero_add _]
    have hi0 : (0 : Int) ≤ (i : Int) := Int.natCast_nonneg i
    have hi5 : (i : Int) < 5 := by omega
    obtain ⟨hrk0, hrk⟩ := hrr i (by omega)
    have hc1 := hI _ (.tail _ (.head _))
    simp only [] at hc1
    replace hc1 := Nat.lt_or_gt_of_ne hc1
    have hc0 := hI _ (.head _)
    simp only [] at hc0
    replace hc0 := Nat.lt_or_gt_of_ne hc0
    k_steps
    (rename IsRange _ _ _ _ _ _ _ _ => hr8); (rename Fr _ _ _ _ => kF7); (rename News _ _ _ _ => kN7)
    rw [Int.toNat_natCast] at hr8
    refine range_pack (fun m news j m₁ news₁ => (∃ q1 q2 o ov, o.data = .cell ov ∧ news.headD (0, lstO [] 0) = q1 ∧ news.tail.headD (0, lstO [] 0) = q2 ∧ news₁ = [q1, q2, (L' + 1, o)]) ∧ ∃ t, Sh (Str.ofString "count") [Str.ofString "below"] m (.int (hookF rw9 step i + hookIn rw9 step i j) t) m₁) hr8 (by decide) (by decide) (by omega) (by omega) kF7 kN7 ⟨⟨_, _, _, _, hov, rfl, rfl, rfl⟩, ton, Sh.val (by rw [show hookIn rw9 step i 0 = 0 from rfl, Int.add_zero]) (Sh.base rfl)⟩ ?_ ?_
    · rintro j tv' m₁ news₁ h₁ tk₁ I' oI' hj' ⟨⟨q1, q2, o', ov', hov', rfl, rfl, rfl⟩, t', f', rfl⟩ F₂ N₂ hI2
      clear kF7 kN7
      (try dsimp only [List.headD, List.tail] at F₂ N₂ hI2)
      rw [show (0 : Int) + (j : Int) = (j : Int) from Int.zero_add _]
      have hj0 : (0 : Int) ≤ (j : Int) := Int.natCast_nonneg j
      have hj1 : (j : Int) < 12 := by omega
      have hc2 := hI2 _ (.tail _ (.tail _ (.head _)))
      have hc3 := hI2 _ (.tail _ (.head _))
      have hc4 := hI2 _ (.head _)
      simp only [] at hc2 hc3 hc4
      replace hc2 := Nat.lt_or_gt_of_ne hc2
      replace hc3 := Nat.lt_or_gt_of_ne hc3
      replace hc4 := Nat.lt_or_gt_of_ne hc4
      k_steps
      (rename Fr _ _ _ _ => kF7); (rename News _ _ _ _ => kN7); (rename (Obj.data _ = Data.cell (some (Value.int (j : Int) _))) => d4)
      have hsl := (by assumption : IntsAre _ (List.take _ rw9))
      have x2 := (kN7 _ (by k_mem : (L' + 1, _) ∈ _)).1
      have hvl := ints_len hsl
      have htl : (List.take i rw9).length ≤ 4 := by rw [List.length_take]; omega
      (try rw [Int.toNat_natCast] at hsl hvl)
      refine ⟨_, _, rfl, News.isList kN7 (.head _), by rw [List.size_toArray, sizeLine_eq]; omega, go_name, fun i' ys news => news = [] ∧ IntsAre ys (((rw9.take i).take i').filter fun r => decide ((j : Int) < r)), ⟨rfl, .nil⟩, ?_, ?_⟩
      · rintro hb C D I2 oI2 i2 v ys nD news mC h₁ tk₁ E' kb hx' ⟨rfl, hst⟩ FC NC hne hID
        obtain ⟨rv, tr, hrv, rfl⟩ := ints_at hsl (i := i2) (v := v) (by simpa using hx')
        have y2 := kb _ _ x2
        clear kF7 kN7 x2
        refine name_assign FC NC rfl rfl fun h₂ F₂ N₂ => ?_
        clear FC NC
        k_steps
        any_goals (show CompEnd _ _ _ _ _ _ _ _ _; (rename Fr _ _ _ _ => kF8); (rename News _ _ _ _ => kN8); refine ⟨_, _, _, [], rfl, kF8, kN8, hne, rfl, ?_⟩; obtain ⟨hlt, rfl⟩ := List.getElem?_eq_some_iff.mp hrv; rw [List.take_succ_eq_append_getElem hlt, List.filter_append])
        any_goals (first | (rw [List.filter_cons_of_pos (by simp only [decide_eq_true_eq]; omega)]; exact IntsAre.append hst (.cons _ _ .nil)) | (rw [List.filter_cons_of_neg (by simp only [decide_eq_true_eq]; omega)]; simpa using hst))
        all_goals (first | exact [] | exact (0 : Nat) | exact (Str.ofString "") | exact Value.none | exact default)
      · rintro ys D nD news h9 tk9 ⟨rfl, hst⟩ kk hD hD' hnews
        have kF6 := fr_keep kF7 kk
        have kN6 := news_add kF7 (news_keep kN7 kk) hD hD'
        clear kF7 kN7 x2
        rw [List.size_toArray, hvl, List.take_length] at hst
        have hfz : ((rw9.take i).filter fun r => decide ((j : Int) < r)).length ≤ 4 := Nat.le_trans (List.length_filter_le _ _) htl
        k_steps
        all_goals ((rename Fr _ _ _ _ => kF8); (rename News _ _ _ _ => kN8); simp only [Int.toNat_natCast] at *)
        · refine' ⟨_, _, _, _, rfl, kF8, News.tail' (News.tail' kN8), ?hn, ⟨⟨_, _, _, _, d4, rfl, rfl, rfl⟩, _, Sh.val (v := _) ?e ?h⟩⟩
          (case h => walk_at "mine:shape")
          (case hn => simp only [List.forall_mem_cons] at hI2 ⊢; exact hI2)
          (case e => refine int_eq ?_; rw [show hookIn rw9 step i (j + 1) = hookIn rw9 step i j + if Int.fmod (rw9.getD i 0 - (j : Int) + (((rw9.take i).filter fun r => decide ((j : Int) < r)).length : Int)) step = 0 then 1 else 0 from rfl, if_pos (by assumption)]; omega)
        · refine' ⟨_, _, _, _, rfl, kF8, News.tail' (News.tail' kN8), ?hn, ⟨⟨_, _, _, _, d4, rfl, rfl, rfl⟩, _, Sh.val (v := _) ?e ?h⟩⟩
          (case h => walk_at "mine:shape")
          (case hn => simp only [List.forall_mem_cons] at hI2 ⊢; exact hI2)
          (case e => refine int_eq ?_; rw [show hookIn rw9 step i (j + 1) = hookIn rw9 step i j + if Int.fmod (rw9.getD i 0 - (j : Int) + (((rw9.take i).filter fun r => decide ((j : Int) < r)).length : Int)) step = 0 then 1 else 0 from rfl, if_neg (by assumption)]; omega)
    · rintro m₁ news₁ h₁ tk₁ ⟨⟨q1, q2, o', ov', hov', rfl, rfl, rfl⟩, t', f', rfl⟩ F₂ N₂
      clear kF7 kN7
      (try dsimp only [List.headD, List.tail] at F₂ N₂)
      k_steps
      (rename Fr _ _ _ _ => kF8); (rename News _ _ _ _ => kN8)
      refine' ⟨_, _, _, _, rfl, kF8, kN8, ?_, ⟨⟨_, _, _, hov', rfl, rfl⟩, _, Sh.val (v := _) ?e ?h⟩⟩
      (case h => walk_at "mine:shape")
      · simp only [List.forall_mem_cons] at hI ⊢
        exact hI
      (case e => refine int_eq ?_; rw [show hookF rw9 step (i + 1) = hookF rw9 step i + hookIn rw9 step i (rw9.getD i 0).toNat from rfl, Int.sub_zero])
  · rintro m₁ news₁ h₁ tk₁ ⟨⟨qq, o, ov, hov, rfl, rfl⟩, ton, f, rfl⟩ F₁ N₁
    have hn : ((rw9.length : Int) - 0).toNat = rw9.length := by omega
    rw [hn] at F₁
    (try dsimp only at F₁)
    k_steps
    exact hret' _ _ _ F₁.keep
theorem linesUnpaid : True := by
  w_top off
  k_with_none
  k_with "getMethod ref" => ((k_here; (with_reducible show wpAny _ _ (getMethod (Value.ref _) (Str.ofString "search") _) _ _ _); k_dflt (refine' search_meth (by k_asm) (by k_asm) (by k_is) ?_; k_whole)))
  k_with "call builtin:re.Pattern.search" => ((k_here; k_dflt (first
  | (refine' search_name (by k_asm) (by k_asm) (by k_is) (by k_is) (by decide +kernel) (by assumption) (by assumption) ?_; k_whole)
  | (refine' search_val (by k_asm) (by k_asm) (by k_is) (by k_is) (by decide +kernel) (by assumption) (by assumption) ?_; k_whole))))
  k_with "mine:le" => (exact Nat.le_of_ble_eq_true rfl)
  k_with "call builtin:str.lower" => ((k_here; (with_reducible show wpAny _ _ (call (Value.builtin "str.lower") [Value.str _ _]) _ _ _); k_dflt (refine' KXw.lower (by assumption) (by (exact low_fit (by assumption))) ?_; k_whole); intro t' k'))
  k_with "mine:moved" => (((rename Keep _ _ => kp9'); (with_reducible rename Fr _ _ _ _ => kF9); (with_reducible rename News _ _ _ _ => kN9); (replace kF9 := fr_keep kF9 kp9'); (replace kN9 := news_keep kN9 kp9'); (try dsimp only at kF9 kN9)))
  k_with "mine:movedN" => (((rename Keep _ _ => kp9'); (rename (Heap.get? _ _ = none) => hn9'); (rename (Heap.get? _ _ = some _) => hq9'); (with_reducible rename Fr _ _ _ _ => kF9); (with_reducible rename News _ _ _ _ => kN9); (replace kN9 := news_add kF9 (news_keep kN9 kp9') hn9' hq9'); (replace kF9 := fr_keep kF9 kp9'); (clear hn9' hq9'); (try dsimp only at kF9 kN9)))
  k_with "eval ListComp" => ((k_here; (with_reducible show wpAny _ _ (eval (Expr.ListComp _ _ _ _) _) _ _ _); k_dflt (refine' Comp_list (by exact rfl) (by exact rfl) (by decide) (by exact rfl) (by decide) ?_; k_whole)))
  k_with "eval ListComp" => ((k_here; (with_reducible show wpAny _ _ (eval (Expr.ListComp _ [⟨Expr.Name _ _, Expr.Call (Expr.Name (Str.ofString "range") _) _ _ _, _, _⟩] _ _) _) _ _ _); k_dflt (refine' Comp_range (by exact rfl) (by exact rfl) (by decide) (by exact rfl) (by decide) ?_; k_whole)))
  k_with "eval ListComp" => ((k_here; (with_reducible show wpAny _ _ (eval (Expr.ListComp _ [⟨Expr.Name _ _, Expr.Call (Expr.Name (Str.ofString "range") _) _ _ _, _, _⟩] _ _) _) _ _ _); k_dflt (refine' Comp_rangeC (by exact rfl) (by exact rfl) (by exact fun _ _ _ => ⟨rfl, rfl⟩) (by exact fun _ _ => rfl) (by exact rfl) (by decide) ?_; k_whole)))
  k_with "eval Name" => ((k_here; k_dflt (refine' name_cell (by k_asm) (by with_unfolding_all exact rfl) (by exact rfl) (by decide) (by exact rfl) (by assumption) (by assumption) ?_; k_whole)))
  k_with "call builtin:len" => ((k_here; (with_reducible show wpAny _ _ (call (Value.builtin "len") [Value.ref _]) _ _ _); k_dflt (refine' lst_len (by k_asm) (by k_mem) (by assumption) (by first | assumption | omega) ?_; k_whole)))
  k_with "compareOp Eq ref ref" => ((k_here; k_dflt (refine' ke_eq_ints (by exact News.isList (by k_asm) (by k_mem)) (by exact News.isList (by k_asm) (by k_mem)) (by assumption) (by first | assumption | exact IntsAre.nil) (by ke_room) ?_; k_whole)))
  trivial
-- room for a contract at its place
-- a written text's lower case is named by a fact
-- behind a contract: the frame's and the ledger's facts at the new heap
-- behind a contract that made an object: its fact joins the ledger

set_option maxHeartbeats 4000000 in
theorem unpaid_ok (w : World) {p : Program} {loose : List Str} {mean : ExcName → Option Value} {mg mb : Str → Option Value} {env : Env} {outer : List Env} {A₀ : Around} {base h₀ : Heap} {L : Addr} {m : Str → Option Value} {s : Shared} {Q E : Value → Shared → Prop}
  (B : Below A₀ base outer h₀) (F : Fr h₀ L s.heap m) (X : (Mine.KK w.params).In h₀) (T : Top p loose mean mg mb h₀) (hf : env.frame = some L) (hke : env.scope.kind = .function)
  {one two : Int} {t1 t2 : Tok} (h1 : 2 ≤ one) (h2 : one ≤ 5) (h3 : 2 ≤ two) (h4 : two ≤ 5) {N9 : Int} (hn : one * two = N9) (h5 : 1 ≤ N9) (h6 : N9 ≤ 25)
  (hret : ∀ a n ys h' tk', Keep s.heap h' → s.heap.get? a = none → h'.get? a = some (lstO ys n) → IntsAre ys (unpaidF one two (one * two - 1).toNat) → Q (.ref a) { s with heap := h', toks := tk' }) :
  wpAny (model PySem.Challenge.rw_tl0048_02.prog w) (Ar 320 200 env outer) (call (.ref 349) [.int one t1, .int two t2]) Q E s := by
  revert X; k_fill; intro X
  refine wpAny_call ?_
  k_dflt (refine' base_cells (binds := [(Str.ofString "one", .int one t1), (Str.ofString "two", .int two t2)]) ?k1 ?k2 ?k3 ?k5 ?kA ?kF ?kK ?k6 ?k7 ?k8 ?k9 ?kB ?kD ?_ ?c2 ?c3 ?c4; (case kA => exact rfl); (case kF => assumption); (case kK => assumption); (case k1 => k_asm); (case k2 => k_asm); (case k3 => k_asm); (case k5 => k_asm); (case k6 => k_is); (case k7 => k_is); (case k8 => exact Nat.le_of_ble_eq_true rfl); (case k9 => first | exact BindsTo.of_eq rfl | exact binds_K (by k_in) rfl (by k_is) rfl rfl rfl); (case kB => exact rfl); (case kD => decide +kernel); (case c2 => exact rfl); (case c3 => exact rfl); (case c4 => exact rfl))
  intro L' h' tk' cells' F' N' Y' B' X' T'
  clear B F X T
  (try dsimp only at F')
  (try simp only [List.cons_append, List.nil_append] at N')
  change wpAny _ _ _ _ _ _
  k_fold
  obtain ⟨o1, o2, rfl, d1, d2⟩ := CellsAre.two Y'
  clear Y'
  (try change o1.data = .cell (some (.int _ _)) at d1)
  (try change o2.data = .cell (some (.int _ _)) at d2)
  k_steps
  (rename Fr _ _ _ _ => kF7); (rename News _ _ _ _ => kN7)
  (rename IsRange _ _ _ _ _ _ _ _ => hr9)
  have x4 := (kN7 _ (.head _)).1
  have x5 := (kN7 _ (.tail _ (.head _))).1
  rw [hn] at hr9
  refine ⟨_, _, _, _, _, _, rfl, hr9, ⟨by decide, by decide, by omega, by omega⟩, by rw [sizeLine_eq]; omega, fun i ys news => news = [] ∧ IntsAre ys (unpaidF one two i), ⟨rfl, .nil⟩, ?_, ?_⟩
  · rintro hb C cc D I oc oI i tv ys nD news mC h₁ tk₁ E' kb hi2 ⟨rfl, hst2⟩ FC hoc NC hne hID hDC hCc
    have y4 := kb _ _ x4
    have y5 := kb _ _ x5
    have kb2 : Keep s.heap hb := Keep.trans kF7.keep kb
    have Xb : (Mine.KK w.params).In hb := Frag.In.keeps (by k_asm) kb2
    have Tb : Top p loose mean mg mb hb := Top.keeps (by k_asm) kb2
    clear kF7 kN7 x4 x5 hr9
    have z1 := (NC _ (.head _)).1
    have hi0 : (0 : Int) ≤ (i : Int) := Int.natCast_nonneg i
    have hi1 : 1 + (i : Int) < N9 := by omega
    generalize hport : 1 + (i : Int) = port at *
    have hp0 : 1 ≤ port := by omega
    have hp1 : port ≤ 24 := by omega
    have hf0 : 0 ≤ Int.fdiv port one ∧ Int.fdiv port one ≤ 12 := by
      rw [Int.fdiv_eq_ediv_of_nonneg _ (by omega)]
      refine ⟨Int.ediv_nonneg (by omega) (by omega), ?_⟩
      have := Int.ediv_le_ediv (c := one) (by omega : 0 < one) (by omega : port ≤ 24)
      have h24 : (24 : Int) / one ≤ 12 := by
        have h5 : one = 2 ∨ one = 3 ∨ one = 4 ∨ one = 5 := by omega
        rcases h5 with rfl | rfl | rfl | rfl <;> decide
      omega
    obtain ⟨hf0, hf1⟩ := hf0
    k_steps
    (rename Fr _ C _ _ => kF8); (rename News _ C _ _ => kN8); (rename IsRange _ _ _ _ _ _ _ _ => hr8)
    refine ⟨_, _, _, _, _, _, rfl, hr8, ⟨by decide, by decide, by omega, by omega⟩, by rw [sizeLine_eq]; omega, fun j ys news => news = [] ∧ IntsAre ys (((List.range j).filter fun (a : Nat) => decide (Int.fmod (port - (a : Int) * one) two = 0)).map fun (a : Nat) => (a : Int)), ⟨rfl, .nil⟩, ?_, ?_⟩
    · rintro hb' C' D' I' oI' j tv' ys' nD' news' mC' h₁' tk₁' E'' kb' hj2 ⟨rfl, hst3⟩ FC' NC' hne' hID'
      have w1 := kb' _ _ (kN8 _ (by k_mem : (cc, oc) ∈ _)).1
      have w4 := kb' _ _ (kF8.keep _ _ y4)
      have w5 := kb' _ _ (kF8.keep _ _ y5)
      have hj0 : (0 : Int) ≤ (j : Int) := Int.natCast_nonneg j
      have hj1 : (j : Int) ≤ Int.fdiv port one := by omega
      have hm1 : (j : Int) * one ≤ 60 := by
        have := Int.mul_le_mul (by omega : (j : Int) ≤ 12) h2 (by omega) (by omega)
        omega
      have hm0 : 0 ≤ (j : Int) * one := Int.mul_nonneg hj0 (by omega)
      clear kF8 kN8 hr8 y4 y5 z1
      rw [show (0 : Int) + (j : Int) = (j : Int) from Int.zero_add _]
      refine name_assign FC' NC' rfl rfl fun h₂ F₂ N₂ => ?_
      clear FC' NC'
      k_steps
      any_goals (show CompEnd _ _ _ _ _ _ _ _ _; (rename Fr _ _ _ _ => kF8); (rename News _ _ _ _ => kN8); refine ⟨_, _, _, [], rfl, kF8, kN8, hne', rfl, ?_⟩; rw [List.range_succ, List.filter_append, List.map_append])
      any_goals (first | (rw [List.filter_cons_of_pos (by simp only [decide_eq_true_eq]; assumption)]; exact IntsAre.append hst3 (.cons _ _ .nil)) | (rw [List.filter_cons_of_neg (by simp only [decide_eq_true_eq]; assumption)]; simpa using hst3))
      all_goals (first | exact [] | exact (0 : Nat) | exact (Str.ofString "") | exact Value.none | exact default)
    · rintro zs D2 nD2 news' h3' tk' C' mC' ⟨rfl, hst3⟩ kk hD2 hD2' hnews hC hCD hns
      refine none_done kk hD2 hD2' hnews hC hCD hns fun h3 kk3 hw3 => ?_
      have kF6 := fr_keep kF8 kk3
      have hw := hw3 _ (.head _)
      have kN6 := news_add kF8 (news_keep kN8 kk3) hw.2 hw.1
      clear kF8 kN8
      k_steps
      all_goals (have hpd : paidF one two port = ((List.range (Int.fdiv port one + 1 - 0).toNat).filter fun (a : Nat) => decide (Int.fmod (port - (a : Int) * one) two = 0)).map fun (a : Nat) => (a : Int) := by unfold paidF; rw [Int.sub_zero])
      all_goals (have hus : unpaidF one two (i + 1) = unpaidF one two i ++ ([i].filter fun (k : Nat) => decide (paidF one two (1 + (k : Int)) = [])).map fun (k : Nat) => 1 + (k : Int) := by unfold unpaidF; rw [List.range_succ, List.filter_append, List.map_append])
      any_goals (show CompEndC _ _ _ _ _ _ _ _ _ _ _; (rename Fr _ C _ _ => kF8); (rename News _ C _ _ => kN8); refine ⟨_, _, _, [], rfl, kF8, News.of_mem kN8 (by simp only [List.forall_mem_cons]; exact ⟨by k_mem, by k_mem, by k_mem, fun _ h => nomatch h⟩), hne, rfl, ?_⟩; rw [hus])
      any_goals (first | (rw [List.filter_cons_of_pos (by simp only [decide_eq_true_eq]; rw [hport, hpd]; exact of_decide_eq_true (by assumption))]; exact IntsAre.append hst2 (by rw [List.filter_nil, List.map_cons, hport]; exact .cons _ _ .nil)) | (rw [List.filter_cons_of_neg (by simp only [decide_eq_true_eq]; rw [hport, hpd]; exact of_decide_eq_false (by assumption))]; simpa using hst2))
      all_goals (first | exact [] | exact (0 : Nat) | exact (Str.ofString "") | exact Value.none | exact default)
  · rintro zs D2 nD2 news h' tk C mC ⟨rfl, hst2⟩ kk hD2 hD2' hnews hC hCD hns
    refine none_done kk hD2 hD2' hnews hC hCD hns fun h3 kk3 hw3 => ?_
    have kF6 := fr_keep kF7 kk3
    have hw := hw3 _ (.head _)
    rw [← hn] at hst2
    refine hret D2 nD2 zs h3 _ kF6.keep ?_ hw.1 hst2
    cases e : s.heap.get? D2 with
    | none => rfl
    | some o =>
      have := kF7.keep _ _ e
      rw [this] at hw
      cases hw.2
theorem linesLawA : True := by
  w_top off
  k_with_none
  k_with "getMethod ref" => ((k_here; (with_reducible show wpAny _ _ (getMethod (Value.ref _) (Str.ofString "search") _) _ _ _); k_dflt (refine' search_meth (by k_asm) (by k_asm) (by k_is) ?_; k_whole)))
  k_with "call builtin:re.Pattern.search" => ((k_here; k_dflt (first
  | (refine' search_name (by k_asm) (by k_asm) (by k_is) (by k_is) (by decide +kernel) (by assumption) (by assumption) ?_; k_whole)
  | (refine' search_val (by k_asm) (by k_asm) (by k_is) (by k_is) (by decide +kernel) (by assumption) (by assumption) ?_; k_whole))))
  k_with "mine:le" => (exact Nat.le_of_ble_eq_true rfl)
  k_with "call builtin:str.lower" => ((k_here; (with_reducible show wpAny _ _ (call (Value.builtin "str.lower") [Value.str _ _]) _ _ _); k_dflt (refine' KXw.lower (by assumption) (by (exact low_fit (by assumption))) ?_; k_whole); intro t' k'))
  k_with "mine:moved" => (((rename Keep _ _ => kp9'); (with_reducible rename Fr _ _ _ _ => kF9); (with_reducible rename News _ _ _ _ => kN9); (replace kF9 := fr_keep kF9 kp9'); (replace kN9 := news_keep kN9 kp9'); (try dsimp only at kF9 kN9)))
  k_with "mine:movedN" => (((rename Keep _ _ => kp9'); (rename (Heap.get? _ _ = none) => hn9'); (rename (Heap.get? _ _ = some _) => hq9'); (with_reducible rename Fr _ _ _ _ => kF9); (with_reducible rename News _ _ _ _ => kN9); (replace kN9 := news_add kF9 (news_keep kN9 kp9') hn9' hq9'); (replace kF9 := fr_keep kF9 kp9'); (clear hn9' hq9'); (try dsimp only at kF9 kN9)))
  k_with "mine:one" => ((first | (k_unfold; (try dsimp only)) | (k_end; wrow_close) | walk1 | (dsimp only; walk1)))
  k_with "exec Assign cons ListComp" => ((k_here; (with_reducible show wpAny _ _ (exec (Stmt.Assign [Expr.Name _ _] (Expr.ListComp _ _ _ _) _) _) _ _ _); k_dflt (refine' Comp_assign (by exact rfl) (by with_unfolding_all rfl) (by with_unfolding_all rfl) (by decide) (by exact rfl) (by decide) ?_; k_whole)))
  k_with "exec Assign cons ListComp" => ((k_here; (with_reducible show wpAny _ _ (exec (Stmt.Assign [Expr.Name _ _] (Expr.ListComp _ [⟨Expr.Name _ _, Expr.Call (Expr.Name (Str.ofString "range") _) _ _ _, _, _⟩] _ _) _) _) _ _ _); k_dflt (refine' Comp_assignR (by exact rfl) (by with_unfolding_all rfl) (by with_unfolding_all rfl) (by decide) (by exact rfl) (by decide) ?_; k_whole)))
  k_with "eval ListComp" => ((k_here; (with_reducible show wpAny _ _ (eval (Expr.ListComp _ _ _ _) _) _ _ _); k_dflt (refine' Comp_list (by exact rfl) (by exact rfl) (by decide) (by exact rfl) (by decide) ?_; k_whole)))
  k_with "eval ListComp" => ((k_here; (with_reducible show wpAny _ _ (eval (Expr.ListComp _ [⟨Expr.Name _ _, Expr.Call (Expr.Name (Str.ofString "range") _) _ _ _, _, _⟩] _ _) _) _ _ _); k_dflt (refine' Comp_range (by exact rfl) (by exact rfl) (by decide) (by exact rfl) (by decide) ?_; k_whole)))
  k_with "eval Name" => ((k_here; k_dflt (refine' name_cell (by k_asm) (by with_unfolding_all exact rfl) (by exact rfl) (by decide) (by exact rfl) (by assumption) (by assumption) ?_; k_whole)))
  k_with "call builtin:len" => ((k_here; (with_reducible show wpAny _ _ (call (Value.builtin "len") [Value.ref _]) _ _ _); k_dflt (refine' lst_len (by k_asm) (by k_mem) (by assumption) (by first | assumption | omega) ?_; k_whole)))
  k_with "subscriptTail List cons Slice ref ref" => ((k_here; k_dflt (refine kba_turn (value' := PySem.Expr.Name (PySem.Str.ofString "_") ⟨0, 0, 0, 0⟩) (fun _ => rfl) ?_)))
  k_with "subscriptTail BinOp Name Add Subscript Slice ref ref" => ((k_here; k_dflt (refine kba_turn (value' := PySem.Expr.Name (PySem.Str.ofString "_") ⟨0, 0, 0, 0⟩) (fun _ => rfl) ?_)))
  k_with "subscriptTail Name Slice ref ref" => ((k_here; k_dflt (refine' kmk_slice_ints (by k_asm) (by k_asm) (by kmk_list) (by kmk_part) (by kmk_part) (by first | assumption | l_ints) (by first | exact kmk_from (by first | assumption | l_ints) (by omega) | exact kmk_upto (by first | assumption | l_ints) (by omega)) (by exact rfl) ?_ (by with_unfolding_all rfl) (by kmk_pure) (by kmk_size)); intro D9 ws9 h9 F9 N9 l9 hI9 hC9 hL9; (try k_lt l9); (try k_sweep)))
  k_with "mine:ne1" => (first | k_ne | exact ne_cell (by k_asm) (by k_mem) (by k_mem) (by assumption) rfl | exact ne_cell (by k_asm) (by k_mem) (by k_mem) (by assumption) (by assumption))
  k_with "mine:allne" => (first | exact List.forall_mem_nil _ | assumption | (refine' List.forall_mem_cons.mpr ⟨(by walk_at "mine:ne1"), (by walk_at "mine:allne")⟩) | exact trips_ne (by k_asm) (fun p hp => by repeat (first | exact hp | apply List.mem_cons_of_mem)) (by k_mem) (by assumption) (by assumption) | exact tups_ne (by k_asm) (fun p hp => by repeat (first | exact hp | apply List.mem_cons_of_mem)) (by k_mem) (by assumption) (by assumption))
  k_with "mine:upd" => (first | (refine' UpdF.head (by walk_at "mine:allne")) | (refine' UpdF.tail (by walk_at "mine:ne1") (by walk_at "mine:upd")))
  k_with "storeName" => ((k_here; (with_reducible show wpAny _ _ (storeName _ _ _) _ _ _); k_dflt (refine' storeX_C (by k_asm) (by k_asm) (by exact rfl) (by walk_at "mine:upd") (by assumption) ?_ (by exact rfl) (by with_unfolding_all exact rfl); k_whole); intro h' o' F' N' d'))
  k_with "mine:allmem" => (first | exact List.forall_mem_nil _ | (refine' List.forall_mem_cons.mpr ⟨(by k_mem), (by walk_at "mine:allmem")⟩))
  trivial
-- room for a contract at its place
-- a written text's lower case is named by a fact
-- behind a contract: the frame's and the ledger's facts at the new heap
-- behind a contract that made an object: its fact joins the ledger


theorem raw4 (ns : List Int) : (List.take (Int.toNat 4) (List.drop (Int.toNat 1) ns ++ List.drop (↑(List.drop (Int.toNat 1) ns).length : Int).toNat [2, 0, 2, 1])).length = 4 := by
  simp only [List.length_take, List.length_append, List.length_drop, Int.toNat_natCast, List.length_cons, List.length_nil]
  have h1 : Int.toNat 4 = 4 := rfl
  have h2 : Int.toNat 1 = 1 := rfl
  omega
theorem four_parts {l : List Int} (h : l.length = 4) (hr : ∀ x ∈ l, 0 ≤ x ∧ x < 3) : ∃ a b c d : Nat, a < 3 ∧ b < 3 ∧ c < 3 ∧ d < 3 ∧ l = [(a : Int), b, c, d] := by
  match l, h with
  | [x, y, z, u], _ =>
    simp only [List.forall_mem_cons] at hr
    exact ⟨x.toNat, y.toNat, z.toNat, u.toNat, by omega, by omega, by omega, by omega, by simp only [List.cons.injEq, and_true]; omega⟩
theorem start_sum (a b c d : Nat) : (List.range ((4 : Int) - 0).toNat).map (fun k => ([(a : Int), b, c, d].take (k + 1)).sum + (k : Int)) = startF a b c d := by
  rw [show ((4 : Int) - 0).toNat = 4 from rfl, show List.range 4 = [0, 1, 2, 3] from rfl]
  simp only [startF, List.map_cons, List.map_nil, List.take_succ_cons, List.take_zero, List.sum_cons, List.sum_nil, List.cons.injEq, and_true]
  omega
/-- a statement's end -/
noncomputable def StmtEnd (P : Shared → Prop) (f : Flow) (s' : Shared) : Prop := f = .next ∧ P s'
theorem stmt_join {M : Model} {A : Around} {E : Value → Shared → Prop} {s : Shared} {t : Sem Flow} (P : Shared → Prop) {Q : Flow → Shared → Prop} (h1 : wpAny M A t (StmtEnd P) E s) (h2 : ∀ s', P s' → Q .next s') : wpAny M A t Q E s :=
  wpAny_mono h1 (fun _ s' ⟨e, h⟩ => e ▸ h2 s' h) fun _ _ h => h
set_option maxHeartbeats 8000000 in
theorem lawA_ok (w : World) {p : Program} {loose : List Str} {mean : ExcName → Option Value} {mg mb : Str → Option Value} {A₀ : Around} {base h₀ : Heap} {L fa ls : Addr} {cdv : Value} {s : Shared} {Q : Flow → Shared → Prop}
  (B : Below A₀ base [] h₀) (F : Fr h₀ L s.heap (fun y => if y = Str.ofString "script" then some (.ref ls) else none)) (X : (Mine.KK w.params).In h₀) (T : Top p loose mean mg mb h₀)
  {o1 o2 o3 o4 : Obj} (N : News h₀ L s.heap [(L + 1 + 1 + 1 + 1, o4), (L + 1 + 1 + 1, o3), (L + 1 + 1, o2), (L + 1, o1)])
  (d4 : o4.data = .cell none) (d3 : o3.data = .cell none) (d2 : o2.data = .cell none) (d1 : o1.data = .cell none)
  {vs : List Value} {ns : List Int} (hl : h₀.IsList ls vs.toArray) (hi : IntsAre vs ns) (hlen : ns.length ≤ 63)
  (hret : ∀ h' tk' one two t1 t2 lp pv nP a b c d o1' v1', PairF one two → a < 3 → b < 3 → c < 3 → d < 3 →
    Fr h₀ L h' (fun y => if y = Str.ofString "ports" then some (.ref lp) else if y = Str.ofString "two" then some (.int two t2) else if y = Str.ofString "one" then some (.int one t1) else if y = Str.ofString "script" then some (.ref ls) else none) →
    News h₀ L h' [(lp, lstO pv nP), (L + 1 + 1 + 1 + 1, o4), (L + 1 + 1 + 1, o3), (L + 1 + 1, o2), (L + 1, o1')] → o1'.data = .cell v1' → IntsAre pv (startF a b c d) →
    wpAny (model PySem.Challenge.rw_tl0048_02.prog w) (Ar 310 100 (envOfC (Str.ofString "law") (lawX w.params).1.2 L fa cdv) []) (execs ((lawX w.params).1.1.drop 3) (envOfC (Str.ofString "law") (lawX w.params).1.2 L fa cdv)) Q (fun _ _ => False) { s with heap := h', toks := tk' }) :
  wpAny (model PySem.Challenge.rw_tl0048_02.prog w) (Ar 310 100 (envOfC (Str.ofString "law") (lawX w.params).1.2 L fa cdv) []) (execs (lawX w.params).1.1 (envOfC (Str.ofString "law") (lawX w.params).1.2 L fa cdv)) Q (fun _ _ => False) s := by
  revert X; k_fill; intro X
  dsimp only [lawX, List.drop] at hret ⊢
  walk_at "mine:one"
  refine stmt_join (fun s' => ∃ one two t1 t2 h' tk', PairF one two ∧ Fr h₀ L h' (fun y => if y = Str.ofString "two" then some (.int two t2) else if y = Str.ofString "one" then some (.int one t1) else if y = Str.ofString "script" then some (.ref ls) else none) ∧ News h₀ L h' [(L + 1 + 1 + 1 + 1, o4), (L + 1 + 1 + 1, o3), (L + 1 + 1, o2), (L + 1, o1)] ∧ s' = { s with heap := h', toks := tk' }) ?_ ?_
  · clear hret
    k_steps
    all_goals (show StmtEnd _ _ _; (rename Fr _ _ _ _ => kF7); (rename News _ _ _ _ => kN7); exact ⟨rfl, _, _, _, _, _, _, by unfold PairF; decide, kF7, News.of_mem kN7 (by walk_at "mine:allmem"), rfl⟩)
  · rintro s' ⟨one, two, t1, t2, h', tk', hP, F, N, rfl⟩
    k_steps
    (rename Fr _ _ _ _ => kF7); (rename News _ _ _ _ => kN7)
    have hr4 := raw4 ns
    (rename IntsAre _ (List.take _ _) => hxs)
    generalize List.take (Int.toNat 4) (List.drop (Int.toNat 1) ns ++ List.drop (↑(List.drop (Int.toNat 1) ns).length : Int).toNat [2, 0, 2, 1]) = xs at *
    have hvl := ints_len hxs
    refine ⟨_, _, rfl, News.isList kN7 (.head _), by rw [List.size_toArray, hvl, sizeLine_eq]; omega, go_name, fun i ys news => news = [] ∧ IntsAre ys ((xs.take i).map fun x => Int.fmod x 3), ⟨rfl, .nil⟩, ?_, ?_⟩
    · rintro hb C D I2 oI2 i2 v ys nD news mC h₁ tk₁ E' kb hx' ⟨rfl, hst⟩ FC NC hne hID
      obtain ⟨wv, tw, hwv', rfl⟩ := ints_at hxs (i := i2) (v := v) (by simpa using hx')
      clear kF7 kN7
      refine name_assign FC NC rfl rfl fun h₂ F₂ N₂ => ?_
      clear FC NC
      k_steps
      any_goals (show CompEnd _ _ _ _ _ _ _ _ _; (rename Fr _ _ _ _ => kF8); (rename News _ _ _ _ => kN8); refine ⟨_, _, _, [], rfl, kF8, kN8, hne, rfl, ?_⟩; obtain ⟨hlt, rfl⟩ := List.getElem?_eq_some_iff.mp hwv'; rw [List.take_succ_eq_append_getElem hlt, List.map_append]; exact IntsAre.append hst (.cons _ _ .nil))
      all_goals (first | exact [] | exact (0 : Nat) | exact (Str.ofString "") | exact Value.none | exact default)
    · rintro ys D nD news h9 tk9 ⟨rfl, hst⟩ kk hD hD' hnews
      have kF6 := fr_keep kF7 kk
      have kN6 := News.of_mem (news' := [(D, lstO ys nD), (L + 1 + 1 + 1 + 1, o4), (L + 1 + 1 + 1, o3), (L + 1 + 1, o2), (L + 1, o1)]) (news_add kF7 (news_keep kN7 kk) hD hD') (by walk_at "mine:allmem")
      have hDc : D ≠ L + 1 := fun e => by
        have := (kN7 _ (by k_mem : (L + 1, o1) ∈ _)).1
        rw [← e, hD] at this
        cases this
      replace hDc := Nat.lt_or_gt_of_ne hDc
      rw [List.size_toArray, hvl, List.take_length] at hst
      obtain ⟨a, b, c, d, ha, hb, hc, hd, e4⟩ := four_parts (l := xs.map fun x => Int.fmod x 3) (by rw [List.length_map, hr4]) (fun x hx => by
        obtain ⟨y, _, rfl⟩ := List.mem_map.mp hx
        exact ⟨fmod_lo (by decide), fmod_hi (by decide)⟩)
      rw [e4] at hst
      clear kF7 kN7 hnews hD hD' kk hxs e4 hr4 hvl
      k_steps
      (rename Fr _ _ _ _ => kF7); (rename News _ _ _ _ => kN7); (rename (Obj.data _ = Data.cell (some (Value.ref _))) => d4'); (rename IsRange _ _ _ _ _ _ _ _ => hr9)
      have x1 := (kN7 _ (by k_mem : (L + 1, _) ∈ _)).1
      have x5 := (kN7 _ (by k_mem : (D, lstO ys nD) ∈ _)).1
      refine ⟨_, _, _, _, _, _, rfl, hr9, ⟨by decide, by decide, by decide, by decide⟩, by rw [sizeLine_eq]; decide, fun i zs news => news = [] ∧ IntsAre zs ((List.range i).map fun (k : Nat) => ([(a : Int), b, c, d].take (k + 1)).sum + (k : Int)), ⟨rfl, .nil⟩, ?_, ?_⟩
      · rintro hb C D2 I2 oI2 i2 tv zs nD2 news mC h₁ tk₁ E' kb hi2 ⟨rfl, hst2⟩ FC NC hne hID
        have y1 := kb _ _ x1
        have hl2 : hb.IsList D ys.toArray := ⟨_, kb _ _ x5, rfl, _, rfl⟩
        have kb2 : Keep h₀ hb := Keep.trans kF7.keep kb
        have Xb : (Mine.KK w.params).In hb := Frag.In.keeps (by k_asm) kb2
        have Tb : Top p loose mean mg mb hb := Top.keeps (by k_asm) kb2
        rw [show (0 : Int) + (i2 : Int) = (i2 : Int) from Int.zero_add _]
        have hik : (i2 : Int) < 4 := by omega
        have hi0 : (0 : Int) ≤ (i2 : Int) := Int.natCast_nonneg i2
        clear kF7 kN7 x1 x5
        refine name_assign FC NC rfl rfl fun h₂ F₂ N₂ => ?_
        clear FC NC
        k_steps
        any_goals (show CompEnd _ _ _ _ _ _ _ _ _; (rename Fr _ _ _ _ => kF8); (rename News _ _ _ _ => kN8); refine ⟨_, _, _, [], rfl, kF8, News.tail' kN8, hne, rfl, ?_⟩; rw [List.range_succ, List.map_append]; rw [show ((i2 : Int) + 1).toNat = i2 + 1 by omega]; exact IntsAre.append hst2 (.cons _ _ .nil))
        all_goals (first | exact [] | exact (0 : Nat) | exact (Str.ofString "") | exact Value.none | exact default)
      · rintro zs D2 nD2 news h' tk C mC ⟨rfl, hst2⟩ kk hD2 hD2' hnews hC hCD hns
        refine local_done kF7 kN7 kk hD2 hD2' hC hCD hns (by exact rfl) (by exact rfl) fun h3 tk3 F3 N3 => ?_
        exact hret _ _ one two t1 t2 D2 zs nD2 a b c d _ _ hP ha hb hc hd F3 (News.of_mem N3 (by walk_at "mine:allmem")) d4' (start_sum a b c d ▸ hst2)
theorem linesLawB : True := by
  w_top off
  k_with_none
  k_with "getMethod ref" => ((k_here; (with_reducible show wpAny _ _ (getMethod (Value.ref _) (Str.ofString "search") _) _ _ _); k_dflt (refine' search_meth (by k_asm) (by k_asm) (by k_is) ?_; k_whole)))
  k_with "call builtin:re.Pattern.search" => ((k_here; k_dflt (first
  | (refine' search_name (by k_asm) (by k_asm) (by k_is) (by k_is) (by decide +kernel) (by assumption) (by assumption) ?_; k_whole)
  | (refine' search_val (by k_asm) (by k_asm) (by k_is) (by k_is) (by decide +kernel) (by assumption) (by assumption) ?_; k_whole))))
  k_with "mine:le" => (exact Nat.le_of_ble_eq_true rfl)
  k_with "call builtin:str.lower" => ((k_here; (with_reducible show wpAny _ _ (call (Value.builtin "str.lower") [Value.str _ _]) _ _ _); k_dflt (refine' KXw.lower (by assumption) (by (exact low_fit (by assumption))) ?_; k_whole); intro t' k'))
  k_with "mine:moved" => (((rename Keep _ _ => kp9'); (with_reducible rename Fr _ _ _ _ => kF9); (with_reducible rename News _ _ _ _ => kN9); (replace kF9 := fr_keep kF9 kp9'); (replace kN9 := news_keep kN9 kp9'); (try dsimp only at kF9 kN9)))
  k_with "mine:movedN" => (((rename Keep _ _ => kp9'); (rename (Heap.get? _ _ = none) => hn9'); (rename (Heap.get? _ _ = some _) => hq9'); (with_reducible rename Fr _ _ _ _ => kF9); (with_reducible rename News _ _ _ _ => kN9); (replace kN9 := news_add kF9 (news_keep kN9 kp9') hn9' hq9'); (replace kF9 := fr_keep kF9 kp9'); (clear hn9' hq9'); (try dsimp only at kF9 kN9)))
  k_with "mine:one" => ((first | (k_unfold; (try dsimp only)) | (k_end; wrow_close) | walk1 | (dsimp only; walk1)))
  k_with "exec Assign cons ListComp" => ((k_here; (with_reducible show wpAny _ _ (exec (Stmt.Assign [Expr.Name _ _] (Expr.ListComp _ _ _ _) _) _) _ _ _); k_dflt (refine' Comp_assign (by exact rfl) (by with_unfolding_all rfl) (by with_unfolding_all rfl) (by decide) (by exact rfl) (by decide) ?_; k_whole)))
  k_with "eval Name" => ((k_here; k_dflt (refine' name_cell (by k_asm) (by with_unfolding_all exact rfl) (by exact rfl) (by decide) (by exact rfl) (by assumption) (by assumption) ?_; k_whole)))
  k_with "mine:allmem" => (first | exact List.forall_mem_nil _ | (refine' List.forall_mem_cons.mpr ⟨(by k_mem), (by walk_at "mine:allmem")⟩))
  k_with "call ref" => ((k_here; (with_reducible show wpAny _ _ (call (Value.ref _) _) _ _ _); k_dflt (refine' hold_in ?_)))
  k_with "mine:app" => (repeat (first | exact .head _ | apply List.mem_append_right | apply List.mem_cons_of_mem))
  k_with "mine:tail" => ((intro p hp; (repeat (first | exact hp | apply List.mem_cons_of_mem))))
  k_with "mine:lne" => (first | exact List.forall_mem_nil _ | (refine' List.forall_mem_cons.mpr ⟨(by first | exact free_ne (by assumption) (by k_mem) (by k_mem) rfl | exact free_ne (by assumption) (by k_mem) (by k_mem) (cell_lfree (by assumption)) | assumption | exact Ne.symm (by assumption)), (by walk_at "mine:lne")⟩))
  k_with "mine:toite" => (iterate 60 (first | (with_reducible show (if (_ : Bool) = true then _ else _)) | walk_at "mine:one"))
  k_with "mine:allt" => (first | (refine' List.forall_mem_cons.mpr ⟨(by k_mem), (by walk_at "mine:allt")⟩) | exact List.forall_mem_nil _ | (intro p hp; (repeat (first | exact hp | apply List.mem_cons_of_mem))))
  trivial
-- room for a contract at its place
-- a written text's lower case is named by a fact
-- behind a contract: the frame's and the ledger's facts at the new heap
-- behind a contract that made an object: its fact joins the ledger

set_option maxHeartbeats 8000000 in
theorem lawB_ok (w : World) {p : Program} {loose : List Str} {mean : ExcName → Option Value} {mg mb : Str → Option Value} {A₀ : Around} {base h₀ : Heap} {L fa ls lp : Addr} {cdv : Value} {s : Shared} {Q : Flow → Shared → Prop} {one two : Int} {t1 t2 : Tok}
  (B : Below A₀ base [] h₀) (F : Fr h₀ L s.heap (fun y => if y = Str.ofString "ports" then some (.ref lp) else if y = Str.ofString "two" then some (.int two t2) else if y = Str.ofString "one" then some (.int one t1) else if y = Str.ofString "script" then some (.ref ls) else none)) (X : (Mine.KK w.params).In h₀) (T : Top p loose mean mg mb h₀)
  {o1 o2 o3 o4 : Obj} {v1 v2 v3 v4 : Option Value} {pv : List Value} {nP : Nat} (N : News h₀ L s.heap [(lp, lstO pv nP), (L + 1 + 1 + 1 + 1, o4), (L + 1 + 1 + 1, o3), (L + 1 + 1, o2), (L + 1, o1)])
  (d4 : o4.data = .cell v4) (d3 : o3.data = .cell v3) (d2 : o2.data = .cell v2) (d1 : o1.data = .cell v1)
  {vs : List Value} {ns ps : List Int} (hl : h₀.IsList ls vs.toArray) (hi : IntsAre vs ns) (hlen : ns.length ≤ 63) (hp : IntsAre pv ps) (hp4 : ps.length ≤ 4) (hr : ∀ a ∈ ps, 0 ≤ a ∧ a < 12) (hs0 : 1 ≤ one) (hs1 : one ≤ 5)
  (hret : ∀ h' tk' ts x1 e1 l1 k1 n1 it1 x2 e2 l2 k2 n2 it2 tl, 
    Fr h₀ L h' (fun y => if y = Str.ofString "start" then some (.int (moveF ps one ns.sum).2 ts) else if y = Str.ofString "other" then some (.ref x2) else if y = Str.ofString "table" then some (.ref x1) else if y = Str.ofString "ports" then some (.ref lp) else if y = Str.ofString "two" then some (.int two t2) else if y = Str.ofString "one" then some (.int one t1) else if y = Str.ofString "script" then some (.ref ls) else none) →
    News h₀ L h' ((l1, lstO it1 n1) :: (l2, lstO it2 n2) :: (x1, instObj 294 e1) :: (e1, hdrD w.params k1 l1) :: (x2, instObj 294 e2) :: (e2, hdrD w.params k2 l2) :: (lp, lstO pv nP) :: (L + 1 + 1 + 1 + 1, o4) :: (L + 1 + 1 + 1, o3) :: (L + 1 + 1, o2) :: (L + 1, o1) :: tl) →
    TupP h₀ tl it1 (entT (moveF ps one ns.sum).1) → TupP h₀ tl it2 (entT (moveF ps one (-1)).1) → (TupC tl) → l1 ≠ l2 → lp ≠ l1 → lp ≠ l2 →
    wpAny (model PySem.Challenge.rw_tl0048_02.prog w) (Ar 310 100 (envOfC (Str.ofString "law") (lawX w.params).1.2 L fa cdv) []) (execs ((lawX w.params).1.1.drop 7) (envOfC (Str.ofString "law") (lawX w.params).1.2 L fa cdv)) Q (fun _ _ => False) { s with heap := h', toks := tk' }) :
  wpAny (model PySem.Challenge.rw_tl0048_02.prog w) (Ar 310 100 (envOfC (Str.ofString "law") (lawX w.params).1.2 L fa cdv) []) (execs ((lawX w.params).1.1.drop 3) (envOfC (Str.ofString "law") (lawX w.params).1.2 L fa cdv)) Q (fun _ _ => False) s := by
  revert X; k_fill; intro X
  dsimp only [lawX, List.drop] at hret ⊢
  k_steps
  (rename Fr _ _ _ _ => kF7); (rename News _ _ _ _ => kN7)
  refine hold_out (at_le rfl rfl (Nat.le_of_ble_eq_true rfl) (Nat.le_of_ble_eq_true rfl) (table_ok _ (by k_asm) kF7 (by k_asm) (by k_asm) rfl rfl (kN7 _ (.head _)).1 hp hp4 hr ?_))
  intro x1 e1 l1 k1 n1 ps1 h9 tk9 kp9 hw9 ht1
  have kN8 := news_adds kF7 (news_keep kN7 kp9) hw9
  have kF8 := fr_keep kF7 kp9
  have y1 := get_ne (kN7 _ (.head _)).1 (hw9 _ (.tail _ (.tail _ (.head _)))).2
  clear kF7 kN7 hw9 kp9
  dsimp only [tabL, List.cons_append, List.nil_append] at kN8
  k_steps
  (rename Fr _ _ _ _ => kF7); (rename News _ _ _ _ => kN7)
  refine hold_out (at_le rfl rfl (Nat.le_of_ble_eq_true rfl) (Nat.le_of_ble_eq_true rfl) (table_ok _ (by k_asm) kF7 (by k_asm) (by k_asm) rfl rfl (lp := lp) (kN7 (lp, lstO pv nP) (by walk_at "mine:app")).1 hp hp4 hr ?_))
  intro x2 e2 l2 k2 n2 ps2 h9 tk9 kp9 hw9 ht2
  have kN8 := news_adds kF7 (news_keep kN7 kp9) hw9
  have kF8 := fr_keep kF7 kp9
  have y2 := get_ne (kN7 (lp, lstO pv nP) (by walk_at "mine:app")).1 (hw9 _ (.tail _ (.tail _ (.head _)))).2
  have y3 := get_ne (kN7 _ (.tail _ (.tail _ (.head _)))).1 (hw9 _ (.tail _ (.tail _ (.head _)))).2
  clear kF7 kN7 hw9 kp9
  dsimp only [tabL, List.cons_append, List.nil_append] at kN8
  replace kN8 := pack_tabs kN8
  have hC := TupC.app (TupC.of ht1) (TupC.of ht2)
  have P1 := TupP.first (g := h₀) (tl := ps2) ht1.tupP
  have P2 := TupP.more (g := h₀) (tl9 := ps1) ht2.tupP
  generalize (ps1.map fun p => Value.ref p.1) = it1 at *
  generalize (ps2.map fun p => Value.ref p.1) = it2 at *
  generalize ps1 ++ ps2 = tl at *
  clear ht1 ht2
  k_steps
  (rename Fr _ _ _ _ => kF7); (rename News _ _ _ _ => kN7)
  refine hold_out (at_le rfl rfl (Nat.le_of_ble_eq_true rfl) (Nat.le_of_ble_eq_true rfl) (move_ok _ (by k_asm) kF7 (by k_asm) (by k_asm) rfl rfl (kN7 _ (by k_mem : (x1, instObj 294 e1) ∈ _)).1 (kN7 _ (by k_mem : (e1, hdrD w.params k1 l1) ∈ _)).1 (P1.at kF7 kN7 (by walk_at "mine:tail")) (news_one kN7 (.head _)) hp4 hr hs0 hs1 ?_))
  intro n1' it1' h9 tk9 t9 kb9 hl9 ht9
  obtain ⟨tl', kF8, kN8, P1', C', hM⟩ := tab_move (pre := [_, _, _, _, _, _, _, _, _, _]) kF7 kN7 (by walk_at "mine:lne") hC kb9 hl9 ht9
  replace P2 := hM _ _ P2
  clear kF7 kN7 P1 hM hC kb9 hl9 ht9
  dsimp only [List.cons_append, List.nil_append] at kN8
  replace kN8 := news_swap kN8
  k_steps
  (rename Fr _ _ _ _ => kF7); (rename News _ _ _ _ => kN7)
  refine hold_out (at_le rfl rfl (Nat.le_of_ble_eq_true rfl) (Nat.le_of_ble_eq_true rfl) (move_ok _ (by k_asm) kF7 (by k_asm) (by k_asm) rfl rfl (kN7 _ (by k_mem : (x2, instObj 294 e2) ∈ _)).1 (kN7 _ (by k_mem : (e2, hdrD w.params k2 l2) ∈ _)).1 (P2.at kF7 kN7 (by walk_at "mine:tail")) (news_one kN7 (.head _)) hp4 hr hs0 hs1 ?_))
  intro n2' it2' h9 tk9 t9' kb9 hl9 ht9
  obtain ⟨tl2, kF8, kN8, P2', C2, hM⟩ := tab_move (pre := [_, _, _, _, _, _, _, _, _, _]) kF7 kN7 (by walk_at "mine:lne") C' kb9 hl9 ht9
  replace P1' := hM _ _ P1'
  clear kF7 kN7 P2 hM C' kb9 hl9 ht9
  dsimp only [List.cons_append, List.nil_append] at kN8
  replace kN8 := news_swap kN8
  rw [move_alike (c := -1) (c' := ns.sum)]
  iterate 3 (walk_at "mine:one")
  simp only [bne_self_eq_false, Bool.false_eq_true, if_false]
  walk_at "mine:one"
  exact hret _ _ _ _ _ _ _ _ _ _ _ _ _ _ _ _ kF8 kN8 P1' P2' C2 (by assumption) (by assumption) (by assumption)
theorem linesLawC : True := by
  w_top off
  k_with_none
  k_with "getMethod ref" => ((k_here; (with_reducible show wpAny _ _ (getMethod (Value.ref _) (Str.ofString "search") _) _ _ _); k_dflt (refine' search_meth (by k_asm) (by k_asm) (by k_is) ?_; k_whole)))
  k_with "call builtin:re.Pattern.search" => ((k_here; k_dflt (first
  | (refine' search_name (by k_asm) (by k_asm) (by k_is) (by k_is) (by decide +kernel) (by assumption) (by assumption) ?_; k_whole)
  | (refine' search_val (by k_asm) (by k_asm) (by k_is) (by k_is) (by decide +kernel) (by assumption) (by assumption) ?_; k_whole))))
  k_with "mine:le" => (exact Nat.le_of_ble_eq_true rfl)
  k_with "call builtin:str.lower" => ((k_here; (with_reducible show wpAny _ _ (call (Value.builtin "str.lower") [Value.str _ _]) _ _ _); k_dflt (refine' KXw.lower (by assumption) (by (exact low_fit (by assumption))) ?_; k_whole); intro t' k'))
  k_with "mine:moved" => (((rename Keep _ _ => kp9'); (with_reducible rename Fr _ _ _ _ => kF9); (with_reducible rename News _ _ _ _ => kN9); (replace kF9 := fr_keep kF9 kp9'); (replace kN9 := news_keep kN9 kp9'); (try dsimp only at kF9 kN9)))
  k_with "mine:movedN" => (((rename Keep _ _ => kp9'); (rename (Heap.get? _ _ = none) => hn9'); (rename (Heap.get? _ _ = some _) => hq9'); (with_reducible rename Fr _ _ _ _ => kF9); (with_reducible rename News _ _ _ _ => kN9); (replace kN9 := news_add kF9 (news_keep kN9 kp9') hn9' hq9'); (replace kF9 := fr_keep kF9 kp9'); (clear hn9' hq9'); (try dsimp only at kF9 kN9)))
  k_with "mine:one" => ((first | (k_unfold; (try dsimp only)) | (k_end; wrow_close) | walk1 | (dsimp only; walk1)))
  k_with "exec Assign cons ListComp" => ((k_here; (with_reducible show wpAny _ _ (exec (Stmt.Assign [Expr.Name _ _] (Expr.ListComp _ _ _ _) _) _) _ _ _); k_dflt (refine' Comp_assign (by exact rfl) (by with_unfolding_all rfl) (by with_unfolding_all rfl) (by decide) (by exact rfl) (by decide) ?_; k_whole)))
  k_with "eval Name" => ((k_here; k_dflt (refine' name_cell (by k_asm) (by with_unfolding_all exact rfl) (by exact rfl) (by decide) (by exact rfl) (by assumption) (by assumption) ?_; k_whole)))
  k_with "mine:allmem" => (first | exact List.forall_mem_nil _ | (refine' List.forall_mem_cons.mpr ⟨(by k_mem), (by walk_at "mine:allmem")⟩))
  k_with "compareOp Eq ref ref" => ((k_here; k_dflt (refine' ke_eq_ints (by exact News.isList (by k_asm) (by k_mem)) (by exact News.isList (by k_asm) (by k_mem)) (by assumption) (by first | assumption | exact IntsAre.nil) (by ke_room) ?_; k_whole)))
  k_with "call ref" => ((k_here; (with_reducible show wpAny _ _ (call (Value.ref _) _) _ _ _); k_dflt (refine' hold_in ?_)))
  k_with "mine:app" => (repeat (first | exact .head _ | apply List.mem_append_right | apply List.mem_cons_of_mem))
  k_with "mine:tail" => ((intro p hp; (repeat (first | exact hp | apply List.mem_cons_of_mem))))
  k_with "mine:lne" => (first | exact List.forall_mem_nil _ | (refine' List.forall_mem_cons.mpr ⟨(by first | exact free_ne (by assumption) (by k_mem) (by k_mem) rfl | exact free_ne (by assumption) (by k_mem) (by k_mem) (cell_lfree (by assumption)) | assumption | exact Ne.symm (by assumption)), (by walk_at "mine:lne")⟩))
  k_with "mine:toite" => (iterate 60 (first | (with_reducible show (if (_ : Bool) = true then _ else _)) | walk_at "mine:one"))
  k_with "mine:allt" => (first | (refine' List.forall_mem_cons.mpr ⟨(by k_mem), (by walk_at "mine:allt")⟩) | exact List.forall_mem_nil _ | (intro p hp; (repeat (first | exact hp | apply List.mem_cons_of_mem))))
  trivial
-- room for a contract at its place
-- a written text's lower case is named by a fact
-- behind a contract: the frame's and the ledger's facts at the new heap
-- behind a contract that made an object: its fact joins the ledger

set_option maxHeartbeats 8000000 in
theorem lawC_ok (w : World) {p : Program} {loose : List Str} {mean : ExcName → Option Value} {mg mb : Str → Option Value} {A₀ : Around} {base h₀ : Heap} {L fa ls lp : Addr} {cdv : Value} {s : Shared} {Q : Flow → Shared → Prop} {one two : Int} {t1 t2 : Tok} {x1 x2 l1 l2 e1 e2 : Addr} {s0 : Int} {ts : Tok}
  (B : Below A₀ base [] h₀) (F : Fr h₀ L s.heap (fun y => if y = Str.ofString "start" then some (.int s0 ts) else if y = Str.ofString "other" then some (.ref x2) else if y = Str.ofString "table" then some (.ref x1) else if y = Str.ofString "ports" then some (.ref lp) else if y = Str.ofString "two" then some (.int two t2) else if y = Str.ofString "one" then some (.int one t1) else if y = Str.ofString "script" then some (.ref ls) else none)) (X : (Mine.KK w.params).In h₀) (T : Top p loose mean mg mb h₀)
  {o1 o2 o3 o4 : Obj} {pv it1 it2 : List Value} {nP n1 n2 : Nat} {k1 k2 : Tok} {tl : List (Addr × Obj)}
  (N : News h₀ L s.heap ((l1, lstO it1 n1) :: (l2, lstO it2 n2) :: (x1, instObj 294 e1) :: (e1, hdrD w.params k1 l1) :: (x2, instObj 294 e2) :: (e2, hdrD w.params k2 l2) :: (lp, lstO pv nP) :: (L + 1 + 1 + 1 + 1, o4) :: (L + 1 + 1 + 1, o3) :: (L + 1 + 1, o2) :: (L + 1, o1) :: tl))
  {q1 q2 : List Int} (P1 : TupP h₀ tl it1 (entT q1)) (P2 : TupP h₀ tl it2 (entT q2)) (hl1 : q1.length ≤ 4) (hl2 : q2.length ≤ 4) (hr1 : ∀ a ∈ q1, 0 ≤ a ∧ a < 12) (hr2 : ∀ a ∈ q2, 0 ≤ a ∧ a < 12)
  (hret : ∀ h' tk' xh xt, Fr h₀ L h' (fun y => if y = Str.ofString "there" then some (.ref xt) else if y = Str.ofString "here" then some (.ref xh) else if y = Str.ofString "start" then some (.int s0 ts) else if y = Str.ofString "other" then some (.ref x2) else if y = Str.ofString "table" then some (.ref x1) else if y = Str.ofString "ports" then some (.ref lp) else if y = Str.ofString "two" then some (.int two t2) else if y = Str.ofString "one" then some (.int one t1) else if y = Str.ofString "script" then some (.ref ls) else none) →
    News h₀ L h' ((l1, lstO it1 n1) :: (l2, lstO it2 n2) :: (x1, instObj 294 e1) :: (e1, hdrD w.params k1 l1) :: (x2, instObj 294 e2) :: (e2, hdrD w.params k2 l2) :: (lp, lstO pv nP) :: (L + 1 + 1 + 1 + 1, o4) :: (L + 1 + 1 + 1, o3) :: (L + 1 + 1, o2) :: (L + 1, o1) :: tl) → (wpAny (model PySem.Challenge.rw_tl0048_02.prog w) (Ar 310 100 (envOfC (Str.ofString "law") (lawX w.params).1.2 L fa cdv) []) (execs ((lawX w.params).1.1.drop 10) (envOfC (Str.ofString "law") (lawX w.params).1.2 L fa cdv)) Q (fun _ _ => False) { s with heap := h', toks := tk' })) :
  (wpAny (model PySem.Challenge.rw_tl0048_02.prog w) (Ar 310 100 (envOfC (Str.ofString "law") (lawX w.params).1.2 L fa cdv) []) (execs ((lawX w.params).1.1.drop 7) (envOfC (Str.ofString "law") (lawX w.params).1.2 L fa cdv)) Q (fun _ _ => False) s) := by
  revert X; k_fill; intro X
  dsimp only [lawX, List.drop] at hret ⊢
  have hs1 : SmallP q1 := fun a ha => by have := hr1 a ha; omega
  have hs2 : SmallP q2 := fun a ha => by have := hr2 a ha; omega
  k_steps
  (rename Fr _ _ _ _ => kF7); (rename News _ _ _ _ => kN7)
  refine hold_out (at_le rfl rfl (Nat.le_of_ble_eq_true rfl) (Nat.le_of_ble_eq_true rfl) (ports_ok _ (by k_asm) kF7 (by k_asm) (by k_asm) rfl rfl (kN7 (x1, instObj 294 e1) (by k_mem)).1 (kN7 (e1, hdrD w.params k1 l1) (by k_mem)).1 (kN7 (l1, lstO it1 n1) (by k_mem)).1 (P1.at kF7 kN7 (by walk_at "mine:tail")) (by omega) hr1 ?_))
  intro xh nh hv h9 tk9 kp9 hn9 hq9 hi9
  have kN8 := news_add kF7 (news_keep kN7 kp9) hn9 hq9
  have kF8 := fr_keep kF7 kp9
  clear kF7 kN7 hn9 hq9 kp9
  k_steps
  (rename Fr _ _ _ _ => kF7); (rename News _ _ _ _ => kN7)
  refine hold_out (at_le rfl rfl (Nat.le_of_ble_eq_true rfl) (Nat.le_of_ble_eq_true rfl) (ports_ok _ (by k_asm) kF7 (by k_asm) (by k_asm) rfl rfl (kN7 (x2, instObj 294 e2) (by k_mem)).1 (kN7 (e2, hdrD w.params k2 l2) (by k_mem)).1 (kN7 (l2, lstO it2 n2) (by k_mem)).1 (P2.at kF7 kN7 (by walk_at "mine:tail")) (by omega) hr2 ?_))
  intro xt nt tv h9 tk9 kp9 hn9 hq9 hi9'
  have kN8 := news_add kF7 (news_keep kN7 kp9) hn9 hq9
  have kF8 := fr_keep kF7 kp9
  clear kF7 kN7 hn9 hq9 kp9
  k_steps
  (rename Fr _ _ _ _ => kF7); (rename News _ _ _ _ => kN7)
  refine hold_out (at_le rfl rfl (Nat.le_of_ble_eq_true rfl) (Nat.le_of_ble_eq_true rfl) (lead2_ok _ (by k_asm) kF7 (by k_asm) (by k_asm) rfl rfl (kN7 (xh, lstO hv nh) (by k_mem)).1 hi9 hl1 hs1 ?_))
  intro w1 g1 D1 D2 j1 j2 j3 j4 j5 tn1 tt1 tb1 rv1 sv1 vs1 h9 tk9 kp9 hw9 hj1
  have kN8 := news_adds kF7 (news_keep kN7 kp9) hw9
  have kF8 := fr_keep kF7 kp9
  have hp1 := WsP.of' hw9 hj1
  clear kF7 kN7 hw9 hj1 kp9
  dsimp only [wsL, List.cons_append, List.nil_append] at kN8
  k_steps
  (rename Fr _ _ _ _ => kF7); (rename News _ _ _ _ => kN7)
  refine hold_out (at_le rfl rfl (Nat.le_of_ble_eq_true rfl) (Nat.le_of_ble_eq_true rfl) (lead2_ok _ (by k_asm) kF7 (by k_asm) (by k_asm) rfl rfl (kN7 (xt, lstO tv nt) (by k_mem)).1 hi9' hl2 hs2 ?_))
  intro w2 g2 D3 D4 j6 j7 j8 j9 j0 tn2 tt2 tb2 rv2 sv2 vs2 h9 tk9 kp9 hw9 hj2
  have kN8 := news_adds kF7 (news_keep kN7 kp9) hw9
  have kF8 := fr_keep kF7 kp9
  have hp2 := WsP.of' hw9 hj2
  clear kF7 kN7 hw9 hj2 kp9
  dsimp only [wsL, List.cons_append, List.nil_append] at kN8
  k_steps
  (rename Fr _ _ _ _ => kF7); (rename News _ _ _ _ => kN7)
  refine hold_out (at_le rfl rfl (Nat.le_of_ble_eq_true rfl) (Nat.le_of_ble_eq_true rfl) (equal_ok _ (by k_asm) kF7 (by k_asm) (by k_asm) rfl rfl (WsP.at hp1 kN7 (by walk_at "mine:allmem")) (WsP.at hp2 kN7 (by walk_at "mine:allmem")) ?_))
  intro h9 tk9 kp9
  have kN8 := news_keep kN7 kp9
  have kF8 := fr_keep kF7 kp9
  clear kF7 kN7 kp9
  walk_at "mine:toite"
  (rename Fr _ _ _ _ => kF8); (rename News _ _ _ _ => kN8)
  rw [lead_sorted hr1 hr2 (by assumption : List.Perm _ q1) (by assumption : List.Perm _ q2) (by assumption) (by assumption)]
  simp only [bne_self_eq_false, Bool.false_eq_true, if_false]
  walk_at "mine:one"
  exact hret _ _ _ _ kF8 (News.of_mem kN8 (by walk_at "mine:allt"))
theorem linesLawD : True := by
  w_top off
  k_with_none
  k_with "getMethod ref" => ((k_here; (with_reducible show wpAny _ _ (getMethod (Value.ref _) (Str.ofString "search") _) _ _ _); k_dflt (refine' search_meth (by k_asm) (by k_asm) (by k_is) ?_; k_whole)))
  k_with "call builtin:re.Pattern.search" => ((k_here; k_dflt (first
  | (refine' search_name (by k_asm) (by k_asm) (by k_is) (by k_is) (by decide +kernel) (by assumption) (by assumption) ?_; k_whole)
  | (refine' search_val (by k_asm) (by k_asm) (by k_is) (by k_is) (by decide +kernel) (by assumption) (by assumption) ?_; k_whole))))
  k_with "mine:le" => (exact Nat.le_of_ble_eq_true rfl)
  k_with "call builtin:str.lower" => ((k_here; (with_reducible show wpAny _ _ (call (Value.builtin "str.lower") [Value.str _ _]) _ _ _); k_dflt (refine' KXw.lower (by assumption) (by (exact low_fit (by assumption))) ?_; k_whole); intro t' k'))
  k_with "mine:moved" => (((rename Keep _ _ => kp9'); (with_reducible rename Fr _ _ _ _ => kF9); (with_reducible rename News _ _ _ _ => kN9); (replace kF9 := fr_keep kF9 kp9'); (replace kN9 := news_keep kN9 kp9'); (try dsimp only at kF9 kN9)))
  k_with "mine:movedN" => (((rename Keep _ _ => kp9'); (rename (Heap.get? _ _ = none) => hn9'); (rename (Heap.get? _ _ = some _) => hq9'); (with_reducible rename Fr _ _ _ _ => kF9); (with_reducible rename News _ _ _ _ => kN9); (replace kN9 := news_add kF9 (news_keep kN9 kp9') hn9' hq9'); (replace kF9 := fr_keep kF9 kp9'); (clear hn9' hq9'); (try dsimp only at kF9 kN9)))
  k_with "mine:one" => ((first | (k_unfold; (try dsimp only)) | (k_end; wrow_close) | walk1 | (dsimp only; walk1)))
  k_with "exec Assign cons ListComp" => ((k_here; (with_reducible show wpAny _ _ (exec (Stmt.Assign [Expr.Name _ _] (Expr.ListComp _ _ _ _) _) _) _ _ _); k_dflt (refine' Comp_assign (by exact rfl) (by with_unfolding_all rfl) (by with_unfolding_all rfl) (by decide) (by exact rfl) (by decide) ?_; k_whole)))
  k_with "eval Name" => ((k_here; k_dflt (refine' name_cell (by k_asm) (by with_unfolding_all exact rfl) (by exact rfl) (by decide) (by exact rfl) (by assumption) (by assumption) ?_; k_whole)))
  k_with "mine:allmem" => (first | exact List.forall_mem_nil _ | (refine' List.forall_mem_cons.mpr ⟨(by k_mem), (by walk_at "mine:allmem")⟩))
  k_with "call ref" => ((k_here; (with_reducible show wpAny _ _ (call (Value.ref _) _) _ _ _); k_dflt (refine' hold_in ?_)))
  k_with "mine:app" => (repeat (first | exact .head _ | apply List.mem_append_right | apply List.mem_cons_of_mem))
  k_with "mine:tail" => ((intro p hp; (repeat (first | exact hp | apply List.mem_cons_of_mem))))
  k_with "mine:lne" => (first | exact List.forall_mem_nil _ | (refine' List.forall_mem_cons.mpr ⟨(by first | exact free_ne (by assumption) (by k_mem) (by k_mem) rfl | exact free_ne (by assumption) (by k_mem) (by k_mem) (cell_lfree (by assumption)) | assumption | exact Ne.symm (by assumption)), (by walk_at "mine:lne")⟩))
  k_with "mine:toite" => (iterate 60 (first | (with_reducible show (if (_ : Bool) = true then _ else _)) | walk_at "mine:one"))
  k_with "mine:allt" => (first | (refine' List.forall_mem_cons.mpr ⟨(by k_mem), (by walk_at "mine:allt")⟩) | exact List.forall_mem_nil _ | (intro p hp; (repeat (first | exact hp | apply List.mem_cons_of_mem))))
  trivial
-- room for a contract at its place
-- a written text's lower case is named by a fact
-- behind a contract: the frame's and the ledger's facts at the new heap
-- behind a contract that made an object: its fact joins the ledger

set_option maxHeartbeats 8000000 in
theorem lawD_ok (w : World) {p : Program} {loose : List Str} {mean : ExcName → Option Value} {mg mb : Str → Option Value} {A₀ : Around} {base h₀ : Heap} {L fa ls lp : Addr} {cdv : Value} {s : Shared} {Q : Flow → Shared → Prop} {one two : Int} {t1 t2 : Tok} {x1 x2 l1 l2 e1 e2 xh xt : Addr} {ts : Tok} {ps ns : List Int}
  (B : Below A₀ base [] h₀) (F : Fr h₀ L s.heap (fun y => if y = Str.ofString "there" then some (.ref xt) else if y = Str.ofString "here" then some (.ref xh) else if y = Str.ofString "start" then some (.int (moveF ps one ns.sum).2 ts) else if y = Str.ofString "other" then some (.ref x2) else if y = Str.ofString "table" then some (.ref x1) else if y = Str.ofString "ports" then some (.ref lp) else if y = Str.ofString "two" then some (.int two t2) else if y = Str.ofString "one" then some (.int one t1) else if y = Str.ofString "script" then some (.ref ls) else none)) (X : (Mine.KK w.params).In h₀) (T : Top p loose mean mg mb h₀)
  {o1 o2 o3 o4 : Obj} {v1 v2 v3 v4 : Option Value} {pv it1 it2 vs : List Value} {nP n1 n2 : Nat} {k1 k2 : Tok} {tl : List (Addr × Obj)}
  (N : News h₀ L s.heap ((l1, lstO it1 n1) :: (l2, lstO it2 n2) :: (x1, instObj 294 e1) :: (e1, hdrD w.params k1 l1) :: (x2, instObj 294 e2) :: (e2, hdrD w.params k2 l2) :: (lp, lstO pv nP) :: (L + 1 + 1 + 1 + 1, o4) :: (L + 1 + 1 + 1, o3) :: (L + 1 + 1, o2) :: (L + 1, o1) :: tl))
  (d4 : o4.data = .cell v4) (d3 : o3.data = .cell v3) (d2 : o2.data = .cell v2) (d1 : o1.data = .cell v1)
  (P1 : TupP h₀ tl it1 (entT (moveF ps one ns.sum).1)) (P2 : TupP h₀ tl it2 (entT (moveF ps one (-1)).1)) (hC : TupC tl) (y3 : l1 ≠ l2) (y1 : lp ≠ l1) (y2 : lp ≠ l2)
  (hl : h₀.IsList ls vs.toArray) (hi : IntsAre vs ns) (hlen : ns.length ≤ 63) (hp4 : ps.length ≤ 4) (hr : ∀ a ∈ ps, 0 ≤ a ∧ a < 12) (hn : ps.Nodup) (hs0 : 1 ≤ one) (hs1 : one ≤ 5)
  (hret : ∀ h' tk' mid xm nm mv n1' it1' tl' va tm, ∀ k : Nat, MovesTo one ns.sum ps k mid → ableF mid one = [] → Fr h₀ L h' (fun y => if y = Str.ofString "middle" then some (.ref xm) else if y = Str.ofString "also" then some (va) else if y = Str.ofString "moved" then some (.int (k : Int) tm) else if y = Str.ofString "there" then some (.ref xt) else if y = Str.ofString "here" then some (.ref xh) else if y = Str.ofString "start" then some (.int (moveF ps one ns.sum).2 ts) else if y = Str.ofString "other" then some (.ref x2) else if y = Str.ofString "table" then some (.ref x1) else if y = Str.ofString "ports" then some (.ref lp) else if y = Str.ofString "two" then some (.int two t2) else if y = Str.ofString "one" then some (.int one t1) else if y = Str.ofString "script" then some (.ref ls) else none) →
    News h₀ L h' ((l1, lstO it1' n1') :: (x1, instObj 294 e1) :: (e1, hdrD w.params k1 l1) :: (xm, lstO mv nm) :: (lp, lstO pv nP) :: (L + 1 + 1 + 1 + 1, o4) :: (L + 1 + 1 + 1, o3) :: (L + 1 + 1, o2) :: (L + 1, o1) :: tl') → TupP h₀ tl' it1' (entT mid) → (TupC tl') → IntsAre mv mid → xm ≠ l1 → (wpAny (model PySem.Challenge.rw_tl0048_02.prog w) (Ar 310 100 (envOfC (Str.ofString "law") (lawX w.params).1.2 L fa cdv) []) (execs ((lawX w.params).1.1.drop 14) (envOfC (Str.ofString "law") (lawX w.params).1.2 L fa cdv)) Q (fun _ _ => False) { s with heap := h', toks := tk' })) :
  (wpAny (model PySem.Challenge.rw_tl0048_02.prog w) (Ar 310 100 (envOfC (Str.ofString "law") (lawX w.params).1.2 L fa cdv) []) (execs ((lawX w.params).1.1.drop 10) (envOfC (Str.ofString "law") (lawX w.params).1.2 L fa cdv)) Q (fun _ _ => False) s) := by
  revert X; k_fill; intro X
  dsimp only [lawX, List.drop] at hret ⊢
  obtain ⟨r1, r2⟩ := move_rng (c := ns.sum) hr hs0
  obtain ⟨r3, r4⟩ := move_rng (c := -1) hr hs0
  k_steps
  (rename Fr _ _ _ _ => kF7); (rename News _ _ _ _ => kN7)
  refine hold_out (at_le rfl rfl (Nat.le_of_ble_eq_true rfl) (Nat.le_of_ble_eq_true rfl) (settle_ok _ (by k_asm) kF7 (by k_asm) (by k_asm) rfl rfl (kN7 (x1, instObj 294 e1) (by k_mem)).1 (kN7 (e1, hdrD w.params k1 l1) (by k_mem)).1 (P1.at kF7 kN7 (by walk_at "mine:tail")) (news_one kN7 (.head _)) (by omega) r1 hs0 hs1 ?_))
  intro n m1 n1' it1' h9 tk9 t9 M1 E1 kb9 hl9 ht9
  obtain ⟨tl', kF8, kN8, P1', C', hM⟩ := tab_move (pre := [_, _, _, _, _, _, _, _, _, _]) kF7 kN7 (by walk_at "mine:lne") hC kb9 hl9 ht9
  replace P2 := hM _ _ P2
  clear kF7 kN7 P1 hM hC kb9 hl9 ht9
  dsimp only [List.cons_append, List.nil_append] at kN8
  replace kN8 := news_swap kN8
  k_steps
  (rename Fr _ _ _ _ => kF7); (rename News _ _ _ _ => kN7)
  refine hold_out (at_le rfl rfl (Nat.le_of_ble_eq_true rfl) (Nat.le_of_ble_eq_true rfl) (settle_ok _ (by k_asm) kF7 (by k_asm) (by k_asm) rfl rfl (kN7 (x2, instObj 294 e2) (by k_mem)).1 (kN7 (e2, hdrD w.params k2 l2) (by k_mem)).1 (P2.at kF7 kN7 (by walk_at "mine:tail")) (news_one kN7 (.head _)) (by omega) r3 hs0 hs1 ?_))
  intro n' m2 n2' it2' h9 tk9 t9' M2 E2 kb9 hl9 ht9
  obtain ⟨tl2, kF8, kN8, P2', C2, hM⟩ := tab_move (pre := [_, _, _, _, _, _, _, _, _, _]) kF7 kN7 (by walk_at "mine:lne") C' kb9 hl9 ht9
  replace P1' := hM _ _ P1'
  clear kF7 kN7 P2 hM C' kb9 hl9 ht9
  dsimp only [List.cons_append, List.nil_append] at kN8
  obtain ⟨g1, g2, _⟩ := moves_facts r1 hs0 M1
  obtain ⟨g3, g4, _⟩ := moves_facts r3 hs0 M2
  obtain ⟨k, ek, ek', K, hperm⟩ := both_ways hr hn hs0 M1 E1 M2 E2
  have sm1 : SmallP m1 := fun a ha => by have := g1 a ha; omega
  have sm2 : SmallP m2 := fun a ha => by have := g3 a ha; omega
  have hnorm := (norm12 g1 g3).mpr hperm
  k_steps
  (rename Fr _ _ _ _ => kF7); (rename News _ _ _ _ => kN7)
  refine hold_out (at_le rfl rfl (Nat.le_of_ble_eq_true rfl) (Nat.le_of_ble_eq_true rfl) (ports_ok _ (by k_asm) kF7 (by k_asm) (by k_asm) rfl rfl (kN7 (x1, instObj 294 e1) (by k_mem)).1 (kN7 (e1, hdrD w.params k1 l1) (by k_mem)).1 (kN7 (l1, lstO it1' n1') (by k_mem)).1 (P1'.at kF7 kN7 (by walk_at "mine:tail")) (by omega) g1 ?_))
  intro xm nm mv h9 tk9 kp9 hn9 hq9 hi9
  have y4 := (get_ne (kN7 (l1, lstO it1' n1') (by k_mem)).1 hn9).symm
  have kN8 := news_add kF7 (news_keep kN7 kp9) hn9 hq9
  have kF8 := fr_keep kF7 kp9
  clear kF7 kN7 hn9 hq9 kp9
  walk_at "mine:toite"
  rw [ek']
  simp only [bne_self_eq_false, Bool.false_eq_true, if_false]
  k_steps
  (rename Fr _ _ _ _ => kF7); (rename News _ _ _ _ => kN7)
  refine hold_out (at_le rfl rfl (Nat.le_of_ble_eq_true rfl) (Nat.le_of_ble_eq_true rfl) (lead2_ok _ (by k_asm) kF7 (by k_asm) (by k_asm) rfl rfl (kN7 (xm, lstO mv nm) (by k_mem)).1 hi9 (by omega) sm1 ?_))
  intro w1 g1 D1 D2 j1 j2 j3 j4 j5 tn1 tt1 tb1 rv1 sv1 vs1 h9 tk9 kp9 hw9 hj1
  have kN8 := news_adds kF7 (news_keep kN7 kp9) hw9
  have kF8 := fr_keep kF7 kp9
  have hp1 := WsP.of' hw9 hj1
  clear kF7 kN7 hw9 hj1 kp9
  dsimp only [wsL, List.cons_append, List.nil_append] at kN8
  k_steps
  (rename Fr _ _ _ _ => kF7); (rename News _ _ _ _ => kN7)
  refine hold_out (at_le rfl rfl (Nat.le_of_ble_eq_true rfl) (Nat.le_of_ble_eq_true rfl) (ports_ok _ (by k_asm) kF7 (by k_asm) (by k_asm) rfl rfl (kN7 (x2, instObj 294 e2) (by k_mem)).1 (kN7 (e2, hdrD w.params k2 l2) (by k_mem)).1 (kN7 (l2, lstO it2' n2') (by k_mem)).1 (P2'.at kF7 kN7 (by walk_at "mine:tail")) (by omega) g3 ?_))
  intro xq nq qv h9 tk9 kp9 hn9 hq9 hi9'
  have kN8 := news_add kF7 (news_keep kN7 kp9) hn9 hq9
  have kF8 := fr_keep kF7 kp9
  clear kF7 kN7 hn9 hq9 kp9
  k_steps
  (rename Fr _ _ _ _ => kF7); (rename News _ _ _ _ => kN7)
  refine hold_out (at_le rfl rfl (Nat.le_of_ble_eq_true rfl) (Nat.le_of_ble_eq_true rfl) (lead2_ok _ (by k_asm) kF7 (by k_asm) (by k_asm) rfl rfl (kN7 (xq, lstO qv nq) (by k_mem)).1 hi9' (by omega) sm2 ?_))
  intro w2 g2 D3 D4 j6 j7 j8 j9 j0 tn2 tt2 tb2 rv2 sv2 vs2 h9 tk9 kp9 hw9 hj2
  have kN8 := news_adds kF7 (news_keep kN7 kp9) hw9
  have kF8 := fr_keep kF7 kp9
  have hp2 := WsP.of' hw9 hj2
  clear kF7 kN7 hw9 hj2 kp9
  dsimp only [wsL, List.cons_append, List.nil_append] at kN8
  k_steps
  (rename Fr _ _ _ _ => kF7); (rename News _ _ _ _ => kN7)
  refine hold_out (at_le rfl rfl (Nat.le_of_ble_eq_true rfl) (Nat.le_of_ble_eq_true rfl) (equal_ok _ (by k_asm) kF7 (by k_asm) (by k_asm) rfl rfl (WsP.at hp1 kN7 (by walk_at "mine:allmem")) (WsP.at hp2 kN7 (by walk_at "mine:allmem")) ?_))
  intro h9 tk9 kp9
  have kN8 := news_keep kN7 kp9
  have kF8 := fr_keep kF7 kp9
  clear kF7 kN7 kp9
  rw [decide_eq_true hnorm]
  walk_at "mine:toite"
  (try simp only [Bool.not_true, Bool.false_eq_true, if_false])
  walk_at "mine:toite"
  simp only [Bool.false_eq_true, if_false]
  walk_at "mine:one"
  (rename Fr _ _ _ _ => kF8); (rename News _ _ _ _ => kN8)
  rw [← ek] at kF8
  exact hret _ _ m1 xm nm mv n1' it1' tl2 _ _ k K E1 kF8 (News.of_mem kN8 (by walk_at "mine:allt")) P1' C2 hi9 y4
theorem linesLawE : True := by
  w_top off
  k_with_none
  k_with "getMethod ref" => ((k_here; (with_reducible show wpAny _ _ (getMethod (Value.ref _) (Str.ofString "search") _) _ _ _); k_dflt (refine' search_meth (by k_asm) (by k_asm) (by k_is) ?_; k_whole)))
  k_with "call builtin:re.Pattern.search" => ((k_here; k_dflt (first
  | (refine' search_name (by k_asm) (by k_asm) (by k_is) (by k_is) (by decide +kernel) (by assumption) (by assumption) ?_; k_whole)
  | (refine' search_val (by k_asm) (by k_asm) (by k_is) (by k_is) (by decide +kernel) (by assumption) (by assumption) ?_; k_whole))))
  k_with "mine:le" => (exact Nat.le_of_ble_eq_true rfl)
  k_with "call builtin:str.lower" => ((k_here; (with_reducible show wpAny _ _ (call (Value.builtin "str.lower") [Value.str _ _]) _ _ _); k_dflt (refine' KXw.lower (by assumption) (by (exact low_fit (by assumption))) ?_; k_whole); intro t' k'))
  k_with "mine:moved" => (((rename Keep _ _ => kp9'); (with_reducible rename Fr _ _ _ _ => kF9); (with_reducible rename News _ _ _ _ => kN9); (replace kF9 := fr_keep kF9 kp9'); (replace kN9 := news_keep kN9 kp9'); (try dsimp only at kF9 kN9)))
  k_with "mine:movedN" => (((rename Keep _ _ => kp9'); (rename (Heap.get? _ _ = none) => hn9'); (rename (Heap.get? _ _ = some _) => hq9'); (with_reducible rename Fr _ _ _ _ => kF9); (with_reducible rename News _ _ _ _ => kN9); (replace kN9 := news_add kF9 (news_keep kN9 kp9') hn9' hq9'); (replace kF9 := fr_keep kF9 kp9'); (clear hn9' hq9'); (try dsimp only at kF9 kN9)))
  k_with "mine:one" => ((first | (k_unfold; (try dsimp only)) | (k_end; wrow_close) | walk1 | (dsimp only; walk1)))
  k_with "exec Assign cons ListComp" => ((k_here; (with_reducible show wpAny _ _ (exec (Stmt.Assign [Expr.Name _ _] (Expr.ListComp _ _ _ _) _) _) _ _ _); k_dflt (refine' Comp_assign (by exact rfl) (by with_unfolding_all rfl) (by with_unfolding_all rfl) (by decide) (by exact rfl) (by decide) ?_; k_whole)))
  k_with "eval Name" => ((k_here; k_dflt (refine' name_cell (by k_asm) (by with_unfolding_all exact rfl) (by exact rfl) (by decide) (by exact rfl) (by assumption) (by assumption) ?_; k_whole)))
  k_with "mine:allmem" => (first | exact List.forall_mem_nil _ | (refine' List.forall_mem_cons.mpr ⟨(by k_mem), (by walk_at "mine:allmem")⟩))
  k_with "call ref" => ((k_here; (with_reducible show wpAny _ _ (call (Value.ref _) _) _ _ _); k_dflt (refine' hold_in ?_)))
  k_with "mine:app" => (repeat (first | exact .head _ | apply List.mem_append_right | apply List.mem_cons_of_mem))
  k_with "mine:tail" => ((intro p hp; (repeat (first | exact hp | apply List.mem_cons_of_mem))))
  k_with "mine:lne" => (first | exact List.forall_mem_nil _ | (refine' List.forall_mem_cons.mpr ⟨(by first | exact free_ne (by assumption) (by k_mem) (by k_mem) rfl | exact free_ne (by assumption) (by k_mem) (by k_mem) (cell_lfree (by assumption)) | assumption | exact Ne.symm (by assumption)), (by walk_at "mine:lne")⟩))
  k_with "mine:toite" => (iterate 60 (first | (with_reducible show (if (_ : Bool) = true then _ else _)) | walk_at "mine:one"))
  k_with "mine:allt" => (first | (refine' List.forall_mem_cons.mpr ⟨(by k_mem), (by walk_at "mine:allt")⟩) | exact List.forall_mem_nil _ | (intro p hp; (repeat (first | exact hp | apply List.mem_cons_of_mem))))
  trivial
-- room for a contract at its place
-- a written text's lower case is named by a fact
-- behind a contract: the frame's and the ledger's facts at the new heap
-- behind a contract that made an object: its fact joins the ledger

set_option maxHeartbeats 8000000 in
theorem lawE_ok (w : World) {p : Program} {loose : List Str} {mean : ExcName → Option Value} {mg mb : Str → Option Value} {A₀ : Around} {base h₀ : Heap} {L fa ls lp : Addr} {cdv : Value} {s : Shared} {Q : Flow → Shared → Prop} {one two : Int} {t1 t2 : Tok} {x1 l1 e1 xm : Addr} {a b c d k : Nat} {mid ns : List Int} {tm : Tok} {va vt vh v0 vo : Value}
  (B : Below A₀ base [] h₀) (F : Fr h₀ L s.heap (fun y => if y = Str.ofString "middle" then some (.ref xm) else if y = Str.ofString "also" then some (va) else if y = Str.ofString "moved" then some (.int (k : Int) tm) else if y = Str.ofString "there" then some (vt) else if y = Str.ofString "here" then some (vh) else if y = Str.ofString "start" then some (v0) else if y = Str.ofString "other" then some (vo) else if y = Str.ofString "table" then some (.ref x1) else if y = Str.ofString "ports" then some (.ref lp) else if y = Str.ofString "two" then some (.int two t2) else if y = Str.ofString "one" then some (.int one t1) else if y = Str.ofString "script" then some (.ref ls) else none)) (X : (Mine.KK w.params).In h₀) (T : Top p loose mean mg mb h₀)
  {o1 o2 o3 o4 : Obj} {v1 v2 v3 v4 : Option Value} {pv it1 mv vs : List Value} {nP n1 nm : Nat} {k1 : Tok} {tl : List (Addr × Obj)}
  (N : News h₀ L s.heap ((l1, lstO it1 n1) :: (x1, instObj 294 e1) :: (e1, hdrD w.params k1 l1) :: (xm, lstO mv nm) :: (lp, lstO pv nP) :: (L + 1 + 1 + 1 + 1, o4) :: (L + 1 + 1 + 1, o3) :: (L + 1 + 1, o2) :: (L + 1, o1) :: tl))
  (d4 : o4.data = .cell v4) (d3 : o3.data = .cell v3) (d2 : o2.data = .cell v2) (d1 : o1.data = .cell v1)
  (P1 : TupP h₀ tl it1 (entT mid)) (hC : TupC tl) (y1 : lp ≠ l1) (y4 : xm ≠ l1) (hmv : IntsAre mv mid) (hpv : IntsAre pv (startF a b c d))
  (hl : h₀.IsList ls vs.toArray) (hi : IntsAre vs ns) (hlen : ns.length ≤ 63) (hP : PairF one two) (ha : a < 3) (hb : b < 3) (hc : c < 3) (hd : d < 3)
  (M1 : MovesTo one ns.sum (startF a b c d) k mid) (E1 : ableF mid one = [])
  (hret : ∀ h' tk' fin xe ne ev n1' it1' tl' ta, ∀ m : Nat, MovesTo two ns.sum mid m fin → ableF fin two = [] → Fr h₀ L h' (fun y => if y = Str.ofString "end" then some (.ref xe) else if y = Str.ofString "again" then some (.int (m : Int) ta) else if y = Str.ofString "middle" then some (.ref xm) else if y = Str.ofString "also" then some (va) else if y = Str.ofString "moved" then some (.int (k : Int) tm) else if y = Str.ofString "there" then some (vt) else if y = Str.ofString "here" then some (vh) else if y = Str.ofString "start" then some (v0) else if y = Str.ofString "other" then some (vo) else if y = Str.ofString "table" then some (.ref x1) else if y = Str.ofString "ports" then some (.ref lp) else if y = Str.ofString "two" then some (.int two t2) else if y = Str.ofString "one" then some (.int one t1) else if y = Str.ofString "script" then some (.ref ls) else none) →
    News h₀ L h' ((l1, lstO it1' n1') :: (x1, instObj 294 e1) :: (e1, hdrD w.params k1 l1) :: (xe, lstO ev ne) :: (xm, lstO mv nm) :: (lp, lstO pv nP) :: (L + 1 + 1 + 1 + 1, o4) :: (L + 1 + 1 + 1, o3) :: (L + 1 + 1, o2) :: (L + 1, o1) :: tl') → TupP h₀ tl' it1' (entT fin) → (TupC tl') → IntsAre ev fin → xe ≠ l1 → (wpAny (model PySem.Challenge.rw_tl0048_02.prog w) (Ar 310 100 (envOfC (Str.ofString "law") (lawX w.params).1.2 L fa cdv) []) (execs ((lawX w.params).1.1.drop 17) (envOfC (Str.ofString "law") (lawX w.params).1.2 L fa cdv)) Q (fun _ _ => False) { s with heap := h', toks := tk' })) :
  (wpAny (model PySem.Challenge.rw_tl0048_02.prog w) (Ar 310 100 (envOfC (Str.ofString "law") (lawX w.params).1.2 L fa cdv) []) (execs ((lawX w.params).1.1.drop 14) (envOfC (Str.ofString "law") (lawX w.params).1.2 L fa cdv)) Q (fun _ _ => False) s) := by
  revert X; k_fill; intro X
  dsimp only [lawX, List.drop] at hret ⊢
  obtain ⟨_, hs0, hs1, hs2, hs3⟩ := pair_chk hP
  obtain ⟨n1s, n2s, n3s, n4s⟩ := start_ok ha hb hc hd
  obtain ⟨g1, g2, _⟩ := moves_facts n3s (by omega) M1
  k_steps
  (rename Fr _ _ _ _ => kF7); (rename News _ _ _ _ => kN7)
  refine hold_out (at_le rfl rfl (Nat.le_of_ble_eq_true rfl) (Nat.le_of_ble_eq_true rfl) (settle_ok _ (by k_asm) kF7 (by k_asm) (by k_asm) rfl rfl (kN7 (x1, instObj 294 e1) (by k_mem)).1 (kN7 (e1, hdrD w.params k1 l1) (by k_mem)).1 (P1.at kF7 kN7 (by walk_at "mine:tail")) (news_one kN7 (.head _)) (by omega) g1 (by omega) hs3 ?_))
  intro m fin n1' it1' h9 tk9 t9 M2 E2 kb9 hl9 ht9
  obtain ⟨tl', kF8, kN8, P1', C', hM⟩ := tab_move (pre := [_, _, _, _, _, _, _, _]) kF7 kN7 (by walk_at "mine:lne") hC kb9 hl9 ht9
  clear kF7 kN7 P1 hM hC kb9 hl9 ht9
  dsimp only [List.cons_append, List.nil_append] at kN8
  obtain ⟨g3, g4, _⟩ := moves_facts g1 (by omega) M2
  obtain ⟨_, hk1, hk2, _⟩ := law2_all hP ha hb hc hd M1 E1 M2 E2
  k_steps
  (rename Fr _ _ _ _ => kF7); (rename News _ _ _ _ => kN7)
  refine hold_out (at_le rfl rfl (Nat.le_of_ble_eq_true rfl) (Nat.le_of_ble_eq_true rfl) (ports_ok _ (by k_asm) kF7 (by k_asm) (by k_asm) rfl rfl (kN7 (x1, instObj 294 e1) (by k_mem)).1 (kN7 (e1, hdrD w.params k1 l1) (by k_mem)).1 (kN7 (l1, lstO it1' n1') (by k_mem)).1 (P1'.at kF7 kN7 (by walk_at "mine:tail")) (by omega) g3 ?_))
  intro xe ne ev h9 tk9 kp9 hn9 hq9 hi9
  have y5 := (get_ne (kN7 (l1, lstO it1' n1') (by k_mem)).1 hn9).symm
  have kN8 := news_add kF7 (news_keep kN7 kp9) hn9 hq9
  have kF8 := fr_keep kF7 kp9
  clear kF7 kN7 hn9 hq9 kp9
  k_steps
  (rename Fr _ _ _ _ => kF7); (rename News _ _ _ _ => kN7)
  refine hold_out (at_le rfl rfl (Nat.le_of_ble_eq_true rfl) (Nat.le_of_ble_eq_true rfl) (hooks_ok _ (by k_asm) kF7 (by k_asm) (by k_asm) rfl rfl (kN7 (lp, lstO pv nP) (by k_mem)).1 hpv (by omega) (by omega) hs1 n3s ?_))
  intro os h9 tk9 t9 kp9 hp9 hs9
  have kN8 := news_keep kN7 kp9
  have kF8 := fr_keep kF7 kp9
  rw [← hk1 os hp9 hs9]
  clear kF7 kN7 kp9 hp9 hs9
  walk_at "mine:toite"
  simp only [bne_self_eq_false, Bool.false_eq_true, if_false]
  k_steps
  (rename Fr _ _ _ _ => kF7); (rename News _ _ _ _ => kN7)
  refine hold_out (at_le rfl rfl (Nat.le_of_ble_eq_true rfl) (Nat.le_of_ble_eq_true rfl) (hooks_ok _ (by k_asm) kF7 (by k_asm) (by k_asm) rfl rfl (kN7 (xm, lstO mv nm) (by k_mem)).1 hmv (by omega) (by omega) hs3 g1 ?_))
  intro os h9 tk9 t9 kp9 hp9 hs9
  have kN8 := news_keep kN7 kp9
  have kF8 := fr_keep kF7 kp9
  rw [← hk2 os hp9 hs9]
  clear kF7 kN7 kp9 hp9 hs9
  walk_at "mine:toite"
  simp only [bne_self_eq_false, Bool.false_eq_true, if_false]
  walk_at "mine:toite"
  simp only [Bool.false_eq_true, if_false]
  walk_at "mine:one"
  (rename Fr _ _ _ _ => kF8); (rename News _ _ _ _ => kN8)
  exact hret _ _ fin xe ne ev n1' it1' tl' _ m M2 E2 kF8 (News.of_mem kN8 (by walk_at "mine:allt")) P1' C' hi9 y5
theorem linesLawT : True := by
  w_top off
  k_with_none
  k_with "getMethod ref" => ((k_here; (with_reducible show wpAny _ _ (getMethod (Value.ref _) (Str.ofString "search") _) _ _ _); k_dflt (refine' search_meth (by k_asm) (by k_asm) (by k_is) ?_; k_whole)))
  k_with "call builtin:re.Pattern.search" => ((k_here; k_dflt (first
  | (refine' search_name (by k_asm) (by k_asm) (by k_is) (by k_is) (by decide +kernel) (by assumption) (by assumption) ?_; k_whole)
  | (refine' search_val (by k_asm) (by k_asm) (by k_is) (by k_is) (by decide +kernel) (by assumption) (by assumption) ?_; k_whole))))
  k_with "mine:le" => (exact Nat.le_of_ble_eq_true rfl)
  k_with "call builtin:str.lower" => ((k_here; (with_reducible show wpAny _ _ (call (Value.builtin "str.lower") [Value.str _ _]) _ _ _); k_dflt (refine' KXw.lower (by assumption) (by (exact low_fit (by assumption))) ?_; k_whole); intro t' k'))
  k_with "mine:moved" => (((rename Keep _ _ => kp9'); (with_reducible rename Fr _ _ _ _ => kF9); (with_reducible rename News _ _ _ _ => kN9); (replace kF9 := fr_keep kF9 kp9'); (replace kN9 := news_keep kN9 kp9'); (try dsimp only at kF9 kN9)))
  k_with "mine:movedN" => (((rename Keep _ _ => kp9'); (rename (Heap.get? _ _ = none) => hn9'); (rename (Heap.get? _ _ = some _) => hq9'); (with_reducible rename Fr _ _ _ _ => kF9); (with_reducible rename News _ _ _ _ => kN9); (replace kN9 := news_add kF9 (news_keep kN9 kp9') hn9' hq9'); (replace kF9 := fr_keep kF9 kp9'); (clear hn9' hq9'); (try dsimp only at kF9 kN9)))
  k_with "mine:one" => ((first | (k_unfold; (try dsimp only)) | (k_end; wrow_close) | walk1 | (dsimp only; walk1)))
  k_with "exec Assign cons ListComp" => ((k_here; (with_reducible show wpAny _ _ (exec (Stmt.Assign [Expr.Name _ _] (Expr.ListComp _ _ _ _) _) _) _ _ _); k_dflt (refine' Comp_assign (by exact rfl) (by with_unfolding_all rfl) (by with_unfolding_all rfl) (by decide) (by exact rfl) (by decide) ?_; k_whole)))
  k_with "eval ListComp" => ((k_here; (with_reducible show wpAny _ _ (eval (Expr.ListComp _ _ _ _) _) _ _ _); k_dflt (refine' Comp_list (by exact rfl) (by exact rfl) (by decide) (by exact rfl) (by decide) ?_; k_whole)))
  k_with "eval Name" => ((k_here; k_dflt (refine' name_cell (by k_asm) (by with_unfolding_all exact rfl) (by exact rfl) (by decide) (by exact rfl) (by assumption) (by assumption) ?_; k_whole)))
  k_with "mine:ne1" => (first | k_ne | exact ne_cell (by k_asm) (by k_mem) (by k_mem) (by assumption) rfl | exact ne_cell (by k_asm) (by k_mem) (by k_mem) (by assumption) (by assumption))
  k_with "mine:allne" => (first | exact List.forall_mem_nil _ | assumption | (refine' List.forall_mem_cons.mpr ⟨(by walk_at "mine:ne1"), (by walk_at "mine:allne")⟩) | exact trips_ne (by k_asm) (fun p hp => by repeat (first | exact hp | apply List.mem_cons_of_mem)) (by k_mem) (by assumption) (by assumption) | exact tups_ne (by k_asm) (fun p hp => by repeat (first | exact hp | apply List.mem_cons_of_mem)) (by k_mem) (by assumption) (by assumption))
  k_with "mine:upd" => (first | (refine' UpdF.head (by walk_at "mine:allne")) | (refine' UpdF.tail (by walk_at "mine:ne1") (by walk_at "mine:upd")))
  k_with "storeName" => ((k_here; (with_reducible show wpAny _ _ (storeName _ _ _) _ _ _); k_dflt (refine' storeX_C (by k_asm) (by k_asm) (by exact rfl) (by walk_at "mine:upd") (by assumption) ?_ (by exact rfl) (by with_unfolding_all exact rfl); k_whole); intro h' o' F' N' d'))
  k_with "mine:allmem" => (first | exact List.forall_mem_nil _ | (refine' List.forall_mem_cons.mpr ⟨(by k_mem), (by walk_at "mine:allmem")⟩))
  k_with "call ref" => ((k_here; (with_reducible show wpAny _ _ (call (Value.ref _) _) _ _ _); k_dflt (refine' hold_in ?_)))
  k_with "mine:app" => (repeat (first | exact .head _ | apply List.mem_append_right | apply List.mem_cons_of_mem))
  k_with "mine:tail" => ((intro p hp; (repeat (first | exact hp | apply List.mem_cons_of_mem))))
  k_with "mine:lne" => (first | exact List.forall_mem_nil _ | (refine' List.forall_mem_cons.mpr ⟨(by first | exact free_ne (by assumption) (by k_mem) (by k_mem) rfl | exact free_ne (by assumption) (by k_mem) (by k_mem) (cell_lfree (by assumption)) | assumption | exact Ne.symm (by assumption)), (by walk_at "mine:lne")⟩))
  k_with "mine:toite" => (iterate 60 (first | (with_reducible show (if (_ : Bool) = true then _ else _)) | walk_at "mine:one"))
  k_with "mine:allt" => (first | (refine' List.forall_mem_cons.mpr ⟨(by k_mem), (by walk_at "mine:allt")⟩) | exact List.forall_mem_nil _ | (intro p hp; (repeat (first | exact hp | apply List.mem_cons_of_mem))))
  trivial
-- room for a contract at its place
-- a written text's lower case is named by a fact
-- behind a contract: the frame's and the ledger's facts at the new heap
-- behind a contract that made an object: its fact joins the ledger

set_option maxHeartbeats 8000000 in
theorem lawT_ok (w : World) {p : Program} {loose : List Str} {mean : ExcName → Option Value} {mg mb : Str → Option Value} {A₀ : Around} {base h₀ : Heap} {L fa ls lp : Addr} {cdv : Value} {s : Shared} {Q : Flow → Shared → Prop} {one two : Int} {t1 t2 : Tok} {tp xb xh : Addr} {bs hs : List Int} {step q : Int} {ts tq : Tok} {m₀ m₁ : Str → Option Value} {E : Value → Shared → Prop}
  (B : Below A₀ base [] h₀) (F : Fr h₀ L s.heap m₁) (X : (Mine.KK w.params).In h₀) (T : Top p loose mean mg mb h₀) (O : Ov [Str.ofString "before", Str.ofString "behind", Str.ofString "moves", Str.ofString "column"] m₀ m₁)
  {o1 o2 o3 o4 : Obj} {v2 : Option Value} {bv hv : List Value} {nb nh : Nat} {rest : List (Addr × Obj)}
  (N : News h₀ L s.heap ((tp, tupO [.ref xb, .ref xh, .int step ts, .int q tq]) :: (xb, lstO bv nb) :: (xh, lstO hv nh) :: (L + 1 + 1 + 1 + 1, o4) :: (L + 1 + 1 + 1, o3) :: (L + 1 + 1, o2) :: (L + 1, o1) :: rest))
  (d2 : o2.data = .cell v2) (hT : ∀ p ∈ rest, p.1 ≠ L + 1 + 1) (hb : IntsAre bv bs) (hh : IntsAre hv hs) (hl1 : bs.length ≤ 4) (hl2 : hs.length ≤ 4) (hr1 : ∀ a ∈ bs, 0 ≤ a ∧ a < 12) (hr2 : ∀ a ∈ hs, 0 ≤ a ∧ a < 12)
  (h2 : 2 ≤ step) (h3 : step ≤ 5)
  (hlev1 : levelF (wsFold (codesF bs ++ [32, 32])) step = 2 + step * (bs.map fun p => Int.fdiv p step + 1).sum) (hlev2 : levelF (wsFold (codesF hs ++ [32, 32])) step = 2 + step * (bs.map fun p => Int.fdiv p step + 1).sum - step * q)
  (hret : ∀ h' tk' m' o2' v2', Ov [Str.ofString "before", Str.ofString "behind", Str.ofString "moves", Str.ofString "column"] m₀ m' → Fr h₀ L h' m' → o2'.data = .cell v2' →
    News h₀ L h' ((tp, tupO [.ref xb, .ref xh, .int step ts, .int q tq]) :: (xb, lstO bv nb) :: (xh, lstO hv nh) :: (L + 1 + 1 + 1 + 1, o4) :: (L + 1 + 1 + 1, o3) :: (L + 1 + 1, o2') :: (L + 1, o1) :: rest) → Q .next { s with heap := h', toks := tk' }) :
  wpAny (model PySem.Challenge.rw_tl0048_02.prog w) (Ar 310 100 (envOfC (Str.ofString "law") (lawX w.params).1.2 L fa cdv) []) (assign (loopX w.params).1.1 (envOfC (Str.ofString "law") (lawX w.params).1.2 L fa cdv) (.ref tp))
    (fun _ s₂ => wpAny (model PySem.Challenge.rw_tl0048_02.prog w) (Ar 310 100 (envOfC (Str.ofString "law") (lawX w.params).1.2 L fa cdv) []) (execs (loopX w.params).1.2 (envOfC (Str.ofString "law") (lawX w.params).1.2 L fa cdv)) Q E s₂) E s := by
  revert X; k_fill; intro X
  obtain ⟨a1, a2, a3, a4⟩ := cs_facts hr1 hl1
  obtain ⟨b1, b2, b3, b4⟩ := cs_facts hr2 hl2
  have sm1 : SmallP bs := fun a ha => by have := hr1 a ha; omega
  have sm2 : SmallP hs := fun a ha => by have := hr2 a ha; omega
  dsimp only [loopX, lawX]
  k_steps
  (rename Fr _ _ _ _ => kF7); (rename News _ _ _ _ => kN7); (rename (Obj.data _ = Data.cell (some _)) => d2')
  have x2 := (kN7 _ (by k_mem : (L + 1 + 1, _) ∈ _)).1
  refine ⟨_, _, rfl, News.isList kN7 (by k_mem : (xb, lstO bv nb) ∈ _), by rw [List.size_toArray, ints_len hb, sizeLine_eq]; omega, go_name, fun i ys news => news = [] ∧ IntsAre ys ((bs.take i).map fun p => Int.fdiv p step + 1), ⟨rfl, .nil⟩, ?_, ?_⟩
  · rintro g9 C D I2 oI2 i2 v ys nD news mC h₁ tk₁ E' kb hx' ⟨rfl, hst⟩ FC NC hne hID
    obtain ⟨wv, tw, hwv', rfl⟩ := ints_at hb (i := i2) (v := v) (by simpa using hx')
    obtain ⟨hw2, hw3⟩ := hr1 wv (List.mem_of_getElem? hwv')
    have y2 := kb _ _ x2
    clear kF7 kN7 x2
    refine name_assign FC NC rfl rfl fun h₂ F₂ N₂ => ?_
    clear FC NC
    k_steps
    any_goals (show CompEnd _ _ _ _ _ _ _ _ _; (rename Fr _ _ _ _ => kF8); (rename News _ _ _ _ => kN8); refine ⟨_, _, _, [], rfl, kF8, kN8, hne, rfl, ?_⟩; obtain ⟨hlt, rfl⟩ := List.getElem?_eq_some_iff.mp hwv'; rw [List.take_succ_eq_append_getElem hlt, List.map_append]; exact IntsAre.append hst (.cons _ _ .nil))
    all_goals (first | exact [] | exact (0 : Nat) | exact (Str.ofString "") | exact Value.none | exact default)
  · rintro ys D nD news h9 tk9 ⟨rfl, hst⟩ kk hD hD' hnews
    rw [List.size_toArray, ints_len hb, List.take_length] at hst
    have kF6 := fr_keep kF7 kk
    have kN6 := news_add kF7 (news_keep kN7 kk) hD hD'
    clear kF7 kN7 x2 hnews hD hD' kk
    generalize hS : (bs.map fun p => Int.fdiv p step + 1) = S at *
    show wpAny _ _ _ _ _ _
    k_steps
    (rename Fr _ _ _ _ => kF7); (rename News _ _ _ _ => kN7)
    refine hold_out (at_le rfl rfl (Nat.le_of_ble_eq_true rfl) (Nat.le_of_ble_eq_true rfl) (lead2_ok _ (by k_asm) kF7 (by k_asm) (by k_asm) rfl rfl (kN7 (xb, lstO bv nb) (by k_mem)).1 hb hl1 sm1 ?_))
    intro w1 g1 D1 D2 j1 j2 j3 j4 j5 tn1 tt1 tb1 rv1 sv1 vs1 h9 tk9 kp9 hw9 hj1
    have kN8 := news_adds kF7 (news_keep kN7 kp9) hw9
    have kF8 := fr_keep kF7 kp9
    have hp1 := WsP.of' hw9 hj1
    clear kF7 kN7 hw9 hj1 kp9
    dsimp only [wsL, List.cons_append, List.nil_append] at kN8
    k_steps
    (rename Fr _ _ _ _ => kF7); (rename News _ _ _ _ => kN7)
    refine hold_out (at_le rfl rfl (Nat.le_of_ble_eq_true rfl) (Nat.le_of_ble_eq_true rfl) (indent_ok _ (by k_asm) kF7 (by k_asm) (by k_asm) rfl rfl (WsP.at hp1 kN7 (by walk_at "mine:allmem")) (by omega) (by omega) a1 a2 a3 a4 ?_))
    intro h9 tk9 t9 kp9
    have kN8 := news_keep kN7 kp9
    have kF8 := fr_keep kF7 kp9
    clear kF7 kN7 kp9 hp1
    rw [hlev1]
    walk_at "mine:toite"
    simp only [bne_self_eq_false, Bool.false_eq_true, if_false]
    k_steps
    (rename Fr _ _ _ _ => kF7); (rename News _ _ _ _ => kN7)
    refine hold_out (at_le rfl rfl (Nat.le_of_ble_eq_true rfl) (Nat.le_of_ble_eq_true rfl) (lead2_ok _ (by k_asm) kF7 (by k_asm) (by k_asm) rfl rfl (kN7 (xh, lstO hv nh) (by k_mem)).1 hh hl2 sm2 ?_))
    intro w1 g1 D1 D2 j1 j2 j3 j4 j5 tn1 tt1 tb1 rv1 sv1 vs1 h9 tk9 kp9 hw9 hj1
    have kN8 := news_adds kF7 (news_keep kN7 kp9) hw9
    have kF8 := fr_keep kF7 kp9
    have hp1 := WsP.of' hw9 hj1
    clear kF7 kN7 hw9 hj1 kp9
    dsimp only [wsL, List.cons_append, List.nil_append] at kN8
    k_steps
    (rename Fr _ _ _ _ => kF7); (rename News _ _ _ _ => kN7)
    refine hold_out (at_le rfl rfl (Nat.le_of_ble_eq_true rfl) (Nat.le_of_ble_eq_true rfl) (indent_ok _ (by k_asm) kF7 (by k_asm) (by k_asm) rfl rfl (WsP.at hp1 kN7 (by walk_at "mine:allmem")) (by omega) (by omega) b1 b2 b3 b4 ?_))
    intro h9 tk9 t9 kp9
    have kN8 := news_keep kN7 kp9
    have kF8 := fr_keep kF7 kp9
    clear kF7 kN7 kp9 hp1
    rw [hlev2]
    walk_at "mine:toite"
    simp only [bne_self_eq_false, Bool.false_eq_true, if_false]
    walk_at "mine:one"
    walk_at "mine:one"
    show wpAny _ _ _ _ _ _
    walk_at "mine:one"
    (rename Fr _ _ _ _ => kF8); (rename News _ _ _ _ => kN8)
    exact hret _ _ _ _ _ (Ov.put (by decide) (Ov.put (by decide) (Ov.put (by decide) (Ov.put (by decide) O)))) kF8 d2' (News.of_mem kN8 (by walk_at "mine:allt"))
theorem linesLawF : True := by
  w_top off
  k_with_none
  k_with "getMethod ref" => ((k_here; (with_reducible show wpAny _ _ (getMethod (Value.ref _) (Str.ofString "search") _) _ _ _); k_dflt (refine' search_meth (by k_asm) (by k_asm) (by k_is) ?_; k_whole)))
  k_with "call builtin:re.Pattern.search" => ((k_here; k_dflt (first
  | (refine' search_name (by k_asm) (by k_asm) (by k_is) (by k_is) (by decide +kernel) (by assumption) (by assumption) ?_; k_whole)
  | (refine' search_val (by k_asm) (by k_asm) (by k_is) (by k_is) (by decide +kernel) (by assumption) (by assumption) ?_; k_whole))))
  k_with "mine:le" => (exact Nat.le_of_ble_eq_true rfl)
  k_with "call builtin:str.lower" => ((k_here; (with_reducible show wpAny _ _ (call (Value.builtin "str.lower") [Value.str _ _]) _ _ _); k_dflt (refine' KXw.lower (by assumption) (by (exact low_fit (by assumption))) ?_; k_whole); intro t' k'))
  k_with "mine:moved" => (((rename Keep _ _ => kp9'); (with_reducible rename Fr _ _ _ _ => kF9); (with_reducible rename News _ _ _ _ => kN9); (replace kF9 := fr_keep kF9 kp9'); (replace kN9 := news_keep kN9 kp9'); (try dsimp only at kF9 kN9)))
  k_with "mine:movedN" => (((rename Keep _ _ => kp9'); (rename (Heap.get? _ _ = none) => hn9'); (rename (Heap.get? _ _ = some _) => hq9'); (with_reducible rename Fr _ _ _ _ => kF9); (with_reducible rename News _ _ _ _ => kN9); (replace kN9 := news_add kF9 (news_keep kN9 kp9') hn9' hq9'); (replace kF9 := fr_keep kF9 kp9'); (clear hn9' hq9'); (try dsimp only at kF9 kN9)))
  k_with "mine:one" => ((first | (k_unfold; (try dsimp only)) | (k_end; wrow_close) | walk1 | (dsimp only; walk1)))
  k_with "exec Assign cons ListComp" => ((k_here; (with_reducible show wpAny _ _ (exec (Stmt.Assign [Expr.Name _ _] (Expr.ListComp _ _ _ _) _) _) _ _ _); k_dflt (refine' Comp_assign (by exact rfl) (by with_unfolding_all rfl) (by with_unfolding_all rfl) (by decide) (by exact rfl) (by decide) ?_; k_whole)))
  k_with "eval Name" => ((k_here; k_dflt (refine' name_cell (by k_asm) (by with_unfolding_all exact rfl) (by exact rfl) (by decide) (by exact rfl) (by assumption) (by assumption) ?_; k_whole)))
  k_with "mine:allmem" => (first | exact List.forall_mem_nil _ | (refine' List.forall_mem_cons.mpr ⟨(by k_mem), (by walk_at "mine:allmem")⟩))
  k_with "call ref" => ((k_here; (with_reducible show wpAny _ _ (call (Value.ref _) _) _ _ _); k_dflt (refine' hold_in ?_)))
  k_with "mine:app" => (repeat (first | exact .head _ | apply List.mem_append_right | apply List.mem_cons_of_mem))
  k_with "mine:tail" => ((intro p hp; (repeat (first | exact hp | apply List.mem_cons_of_mem))))
  k_with "mine:lne" => (first | exact List.forall_mem_nil _ | (refine' List.forall_mem_cons.mpr ⟨(by first | exact free_ne (by assumption) (by k_mem) (by k_mem) rfl | exact free_ne (by assumption) (by k_mem) (by k_mem) (cell_lfree (by assumption)) | assumption | exact Ne.symm (by assumption)), (by walk_at "mine:lne")⟩))
  k_with "mine:toite" => (iterate 60 (first | (with_reducible show (if (_ : Bool) = true then _ else _)) | walk_at "mine:one"))
  k_with "mine:allt" => (first | (refine' List.forall_mem_cons.mpr ⟨(by k_mem), (by walk_at "mine:allt")⟩) | exact List.forall_mem_nil _ | (intro p hp; (repeat (first | exact hp | apply List.mem_cons_of_mem))))
  trivial
-- room for a contract at its place
-- a written text's lower case is named by a fact
-- behind a contract: the frame's and the ledger's facts at the new heap
-- behind a contract that made an object: its fact joins the ledger

set_option maxHeartbeats 8000000 in
theorem lawF_ok (w : World) {p : Program} {loose : List Str} {mean : ExcName → Option Value} {mg mb : Str → Option Value} {A₀ : Around} {base h₀ : Heap} {L fa ls lp : Addr} {cdv : Value} {s : Shared} {Q : Flow → Shared → Prop} {one two : Int} {t1 t2 : Tok} {x1 l1 e1 xm xe : Addr} {ps mid fin : List Int} {k m : Nat} {tm ta : Tok} {va vt vh v0 vo : Value}
  (B : Below A₀ base [] h₀) (F : Fr h₀ L s.heap (fun y => if y = Str.ofString "end" then some (.ref xe) else if y = Str.ofString "again" then some (.int (m : Int) ta) else if y = Str.ofString "middle" then some (.ref xm) else if y = Str.ofString "also" then some (va) else if y = Str.ofString "moved" then some (.int (k : Int) tm) else if y = Str.ofString "there" then some (vt) else if y = Str.ofString "here" then some (vh) else if y = Str.ofString "start" then some (v0) else if y = Str.ofString "other" then some (vo) else if y = Str.ofString "table" then some (.ref x1) else if y = Str.ofString "ports" then some (.ref lp) else if y = Str.ofString "two" then some (.int two t2) else if y = Str.ofString "one" then some (.int one t1) else if y = Str.ofString "script" then some (.ref ls) else none)) (X : (Mine.KK w.params).In h₀) (T : Top p loose mean mg mb h₀)
  {o1 o2 o3 o4 : Obj} {v1 v2 v3 v4 : Option Value} {pv it1 mv ev : List Value} {nP n1 nm ne : Nat} {k1 : Tok} {tl : List (Addr × Obj)}
  (N : News h₀ L s.heap ((l1, lstO it1 n1) :: (x1, instObj 294 e1) :: (e1, hdrD w.params k1 l1) :: (xe, lstO ev ne) :: (xm, lstO mv nm) :: (lp, lstO pv nP) :: (L + 1 + 1 + 1 + 1, o4) :: (L + 1 + 1 + 1, o3) :: (L + 1 + 1, o2) :: (L + 1, o1) :: tl))
  (d4 : o4.data = .cell v4) (d3 : o3.data = .cell v3) (d2 : o2.data = .cell v2) (d1 : o1.data = .cell v1) (hC : TupC tl)
  (hpv : IntsAre pv ps) (hmv : IntsAre mv mid) (hev : IntsAre ev fin) (hl1 : ps.length = 4) (hl2 : mid.length = 4) (hl3 : fin.length = 4) (hr1 : ∀ a ∈ ps, 0 ≤ a ∧ a < 12) (hr2 : ∀ a ∈ mid, 0 ≤ a ∧ a < 12) (hr3 : ∀ a ∈ fin, 0 ≤ a ∧ a < 12)
  (h2 : 2 ≤ one) (h3 : one ≤ 5) (h4 : 2 ≤ two) (h5 : two ≤ 5) (hm1 : muF mid one + k = muF ps one) (hm2 : muF fin two + m = muF mid two)
  (hret : ∀ h' tk' o2' v2' f, Fr h₀ L h' (over [Str.ofString "before", Str.ofString "behind", Str.ofString "moves", Str.ofString "column"] f (fun y => if y = Str.ofString "end" then some (.ref xe) else if y = Str.ofString "again" then some (.int (m : Int) ta) else if y = Str.ofString "middle" then some (.ref xm) else if y = Str.ofString "also" then some (va) else if y = Str.ofString "moved" then some (.int (k : Int) tm) else if y = Str.ofString "there" then some (vt) else if y = Str.ofString "here" then some (vh) else if y = Str.ofString "start" then some (v0) else if y = Str.ofString "other" then some (vo) else if y = Str.ofString "table" then some (.ref x1) else if y = Str.ofString "ports" then some (.ref lp) else if y = Str.ofString "two" then some (.int two t2) else if y = Str.ofString "one" then some (.int one t1) else if y = Str.ofString "script" then some (.ref ls) else none)) → o2'.data = .cell v2' →
    News h₀ L h' ((l1, lstO it1 n1) :: (x1, instObj 294 e1) :: (e1, hdrD w.params k1 l1) :: (xe, lstO ev ne) :: (xm, lstO mv nm) :: (lp, lstO pv nP) :: (L + 1 + 1 + 1 + 1, o4) :: (L + 1 + 1 + 1, o3) :: (L + 1 + 1, o2') :: (L + 1, o1) :: tl) → (wpAny (model PySem.Challenge.rw_tl0048_02.prog w) (Ar 310 100 (envOfC (Str.ofString "law") (lawX w.params).1.2 L fa cdv) []) (execs ((lawX w.params).1.1.drop 18) (envOfC (Str.ofString "law") (lawX w.params).1.2 L fa cdv)) Q (fun _ _ => False) { s with heap := h', toks := tk' })) :
  (wpAny (model PySem.Challenge.rw_tl0048_02.prog w) (Ar 310 100 (envOfC (Str.ofString "law") (lawX w.params).1.2 L fa cdv) []) (execs ((lawX w.params).1.1.drop 17) (envOfC (Str.ofString "law") (lawX w.params).1.2 L fa cdv)) Q (fun _ _ => False) s) := by
  revert X; k_fill; intro X
  dsimp only [lawX, List.drop] at hret ⊢
  k_steps
  (rename Fr _ _ _ _ => kF7); (rename News _ _ _ _ => kN7)
  refine iter_listTurns (vs := [.ref _, .ref _]) rfl kF7 kN7 (.head _) rfl rfl ?_
  intro I hI
  have hL1 := level12 hr1 (tab := one) (by omega)
  have hL2 := level_fall hr2 (tab := one) (by omega) hm1 (by omega)
  have hL3 := level12 hr2 (tab := two) (by omega)
  have hL4 := level_fall hr3 (tab := two) (by omega) hm2 (by omega)
  have iA := hI (L + 1 + 1, o2) (by k_mem)
  refine ItemsRest.val (fun h8 tk8 F8 => AllObj.cons fun oI hcI => AllObj.nil fun N8 => ?_)
  dsimp only [List.cons_append, List.nil_append] at N8
  refine lawT_ok w (ls := ls) (lp := lp) (one := one) (two := two) (t1 := t1) (t2 := t2) B F8 X T Ov.refl (pack_F1 N8) d2 ?hT hpv hmv (by omega) (by omega) hr1 hr2 h2 h3 hL1 hL2 ?_
  case hT =>
    repeat (first | exact tl_cell N8 (by walk_at "mine:tail") (by k_mem) d2 hC | refine List.forall_mem_cons.mpr ⟨by first | exact Nat.ne_of_gt iA | exact ne_cell N8 (by k_mem) (by k_mem) d2 rfl, ?_⟩)
  intro h9 tk9 m' o2' v2' O9 F9 d9 N9
  refine ⟨_, _, _, _, rfl, F9, pack_F1' N9, ne_F (lt_F hI), ⟨⟨.head _, trivial⟩, ?_⟩⟩
  refine ItemsRest.val (fun h8' tk8' F8' => AllObj.cons fun oI' hcI' => AllObj.nil fun N8' => ?_)
  dsimp only [List.cons_append, List.nil_append] at N8'
  refine lawT_ok w (ls := ls) (lp := lp) (one := one) (two := two) (t1 := t1) (t2 := t2) B F8' X T O9 (pack_F2 N8') d9 ?hT' hmv hev (by omega) (by omega) hr2 hr3 h4 h5 hL3 hL4 ?_
  case hT' =>
    repeat (first | exact tl_cell N8' (by walk_at "mine:tail") (by k_mem) d9 hC | refine List.forall_mem_cons.mpr ⟨by first | exact Nat.ne_of_gt iA | exact ne_cell N8' (by k_mem) (by k_mem) d9 rfl, ?_⟩)
  intro h6 tk6 m6 o2'' v2'' O6 F6 d6 N6
  refine ⟨_, _, _, _, rfl, F6, pack_F2' N6, ne_F (lt_F hI), ⟨⟨.head _, trivial⟩, ?_⟩⟩
  refine ItemsRest.zero fun h5 tk5 F5 N5 => ?_
  obtain ⟨f, rfl⟩ := O6
  exact hret _ _ _ _ _ F5 d6 (News.of_mem N5 (by walk_at "mine:allt"))
theorem linesLawG : True := by
  w_top off
  k_with_none
  k_with "getMethod ref" => ((k_here; (with_reducible show wpAny _ _ (getMethod (Value.ref _) (Str.ofString "search") _) _ _ _); k_dflt (refine' search_meth (by k_asm) (by k_asm) (by k_is) ?_; k_whole)))
  k_with "call builtin:re.Pattern.search" => ((k_here; k_dflt (first
  | (refine' search_name (by k_asm) (by k_asm) (by k_is) (by k_is) (by decide +kernel) (by assumption) (by assumption) ?_; k_whole)
  | (refine' search_val (by k_asm) (by k_asm) (by k_is) (by k_is) (by decide +kernel) (by assumption) (by assumption) ?_; k_whole))))
  k_with "mine:le" => (exact Nat.le_of_ble_eq_true rfl)
  k_with "call builtin:str.lower" => ((k_here; (with_reducible show wpAny _ _ (call (Value.builtin "str.lower") [Value.str _ _]) _ _ _); k_dflt (refine' KXw.lower (by assumption) (by (exact low_fit (by assumption))) ?_; k_whole); intro t' k'))
  k_with "mine:moved" => (((rename Keep _ _ => kp9'); (with_reducible rename Fr _ _ _ _ => kF9); (with_reducible rename News _ _ _ _ => kN9); (replace kF9 := fr_keep kF9 kp9'); (replace kN9 := news_keep kN9 kp9'); (try dsimp only at kF9 kN9)))
  k_with "mine:movedN" => (((rename Keep _ _ => kp9'); (rename (Heap.get? _ _ = none) => hn9'); (rename (Heap.get? _ _ = some _) => hq9'); (with_reducible rename Fr _ _ _ _ => kF9); (with_reducible rename News _ _ _ _ => kN9); (replace kN9 := news_add kF9 (news_keep kN9 kp9') hn9' hq9'); (replace kF9 := fr_keep kF9 kp9'); (clear hn9' hq9'); (try dsimp only at kF9 kN9)))
  k_with "mine:one" => ((first | (k_unfold; (try dsimp only)) | (k_end; wrow_close) | walk1 | (dsimp only; walk1)))
  k_with "exec Assign cons ListComp" => ((k_here; (with_reducible show wpAny _ _ (exec (Stmt.Assign [Expr.Name _ _] (Expr.ListComp _ _ _ _) _) _) _ _ _); k_dflt (refine' Comp_assign (by exact rfl) (by with_unfolding_all rfl) (by with_unfolding_all rfl) (by decide) (by exact rfl) (by decide) ?_; k_whole)))
  k_with "eval ListComp" => ((k_here; (with_reducible show wpAny _ _ (eval (Expr.ListComp _ _ _ _) _) _ _ _); k_dflt (refine' Comp_list (by exact rfl) (by exact rfl) (by decide) (by exact rfl) (by decide) ?_; k_whole)))
  k_with "eval ListComp" => ((k_here; (with_reducible show wpAny _ _ (eval (Expr.ListComp _ [⟨Expr.Name _ _, Expr.Call (Expr.Name (Str.ofString "range") _) _ _ _, _, _⟩] _ _) _) _ _ _); k_dflt (refine' Comp_range (by exact rfl) (by exact rfl) (by decide) (by exact rfl) (by decide) ?_; k_whole)))
  k_with "eval Name" => ((k_here; k_dflt (refine' name_cell (by k_asm) (by with_unfolding_all exact rfl) (by exact rfl) (by decide) (by exact rfl) (by assumption) (by assumption) ?_; k_whole)))
  k_with "mine:ne1" => (first | k_ne | exact ne_cell (by k_asm) (by k_mem) (by k_mem) (by assumption) rfl | exact ne_cell (by k_asm) (by k_mem) (by k_mem) (by assumption) (by assumption))
  k_with "mine:allne" => (first | exact List.forall_mem_nil _ | assumption | (refine' List.forall_mem_cons.mpr ⟨(by walk_at "mine:ne1"), (by walk_at "mine:allne")⟩) | exact trips_ne (by k_asm) (fun p hp => by repeat (first | exact hp | apply List.mem_cons_of_mem)) (by k_mem) (by assumption) (by assumption) | exact tups_ne (by k_asm) (fun p hp => by repeat (first | exact hp | apply List.mem_cons_of_mem)) (by k_mem) (by assumption) (by assumption))
  k_with "mine:upd" => (first | (refine' UpdF.head (by walk_at "mine:allne")) | (refine' UpdF.tail (by walk_at "mine:ne1") (by walk_at "mine:upd")))
  k_with "storeName" => ((k_here; (with_reducible show wpAny _ _ (storeName _ _ _) _ _ _); k_dflt (refine' storeX_C (by k_asm) (by k_asm) (by exact rfl) (by walk_at "mine:upd") (by assumption) ?_ (by exact rfl) (by with_unfolding_all exact rfl); k_whole); intro h' o' F' N' d'))
  k_with "mine:allmem" => (first | exact List.forall_mem_nil _ | (refine' List.forall_mem_cons.mpr ⟨(by k_mem), (by walk_at "mine:allmem")⟩))
  k_with "subscriptTail Name Slice ref ref" => ((k_here; (with_reducible show wpAny _ _ (subscriptTail _ (PySem.Expr.Slice none none (some _) _) (Value.ref _) (Value.ref _)) _ _ _); k_dflt (refine' krv_ints (by k_asm) (by k_asm) (by kmk_list) (by exact IsPart.int _ _) (by assumption) ?_ (by with_unfolding_all rfl) (by kmk_pure) (by kmk_size)); intro D9 ws9 h9 F9 N9 l9 hI9 hC9; (try k_lt l9); (try k_sweep)))
  k_with "compareOp Eq ref ref" => ((k_here; k_dflt (refine' ke_eq_ints (by exact News.isList (by k_asm) (by k_mem)) (by exact News.isList (by k_asm) (by k_mem)) (by assumption) (by first | assumption | exact IntsAre.nil) (by ke_room) ?_; k_whole)))
  k_with "call ref" => ((k_here; (with_reducible show wpAny _ _ (call (Value.ref _) _) _ _ _); k_dflt (refine' hold_in ?_)))
  k_with "mine:app" => (repeat (first | exact .head _ | apply List.mem_append_right | apply List.mem_cons_of_mem))
  k_with "mine:tail" => ((intro p hp; (repeat (first | exact hp | apply List.mem_cons_of_mem))))
  k_with "mine:lne" => (first | exact List.forall_mem_nil _ | (refine' List.forall_mem_cons.mpr ⟨(by first | exact free_ne (by assumption) (by k_mem) (by k_mem) rfl | exact free_ne (by assumption) (by k_mem) (by k_mem) (cell_lfree (by assumption)) | assumption | exact Ne.symm (by assumption)), (by walk_at "mine:lne")⟩))
  k_with "mine:toite" => (iterate 60 (first | (with_reducible show (if (_ : Bool) = true then _ else _)) | walk_at "mine:one"))
  k_with "mine:allt" => (first | (refine' List.forall_mem_cons.mpr ⟨(by k_mem), (by walk_at "mine:allt")⟩) | exact List.forall_mem_nil _ | (intro p hp; (repeat (first | exact hp | apply List.mem_cons_of_mem))))
  trivial
-- room for a contract at its place
-- a written text's lower case is named by a fact
-- behind a contract: the frame's and the ledger's facts at the new heap
-- behind a contract that made an object: its fact joins the ledger

set_option maxHeartbeats 8000000 in
theorem lawG_ok (w : World) {p : Program} {loose : List Str} {mean : ExcName → Option Value} {mg mb : Str → Option Value} {A₀ : Around} {base h₀ : Heap} {L fa ls lp : Addr} {cdv : Value} {s : Shared} {Q : Flow → Shared → Prop} {one two : Int} {t1 t2 : Tok} {x1 l1 e1 xe : Addr} {fin : List Int} {f : Str → Option Value} {va vt vh v0 vo vm vk vg : Value}
  (B : Below A₀ base [] h₀) (F : Fr h₀ L s.heap (over [Str.ofString "before", Str.ofString "behind", Str.ofString "moves", Str.ofString "column"] f (fun y => if y = Str.ofString "end" then some (.ref xe) else if y = Str.ofString "again" then some (vg) else if y = Str.ofString "middle" then some (vm) else if y = Str.ofString "also" then some (va) else if y = Str.ofString "moved" then some (vk) else if y = Str.ofString "there" then some (vt) else if y = Str.ofString "here" then some (vh) else if y = Str.ofString "start" then some (v0) else if y = Str.ofString "other" then some (vo) else if y = Str.ofString "table" then some (.ref x1) else if y = Str.ofString "ports" then some (.ref lp) else if y = Str.ofString "two" then some (.int two t2) else if y = Str.ofString "one" then some (.int one t1) else if y = Str.ofString "script" then some (.ref ls) else none))) (X : (Mine.KK w.params).In h₀) (T : Top p loose mean mg mb h₀)
  {o1 o2 o3 o4 : Obj} {v1 v2 v3 v4 : Option Value} {it1 ev : List Value} {n1 ne : Nat} {k1 : Tok} {tl : List (Addr × Obj)}
  (N : News h₀ L s.heap ((l1, lstO it1 n1) :: (x1, instObj 294 e1) :: (e1, hdrD w.params k1 l1) :: (xe, lstO ev ne) :: (L + 1 + 1 + 1 + 1, o4) :: (L + 1 + 1 + 1, o3) :: (L + 1 + 1, o2) :: (L + 1, o1) :: tl))
  (d4 : o4.data = .cell v4) (d3 : o3.data = .cell v3) (d2 : o2.data = .cell v2) (d1 : o1.data = .cell v1)
  (P1 : TupP h₀ tl it1 (entT fin)) (hC : TupC tl) (y5 : xe ≠ l1) (hev : IntsAre ev fin) (hl3 : fin.length = 4) (hr3 : ∀ a ∈ fin, 0 ≤ a ∧ a < 12) (hP : PairF one two) (hab : ableF fin one = [])
  (hg : ∀ os : List Int, os.Perm fin → os.Pairwise (· ≤ ·) → ∀ j : Nat, j < 4 → (rowsF os).reverse.getD j 0 ≤ (greatF one two).getD j 0)
  (hret : ∀ h' tk' m', Fr h₀ L h' m' → Q (.ret (.bool true)) { s with heap := h', toks := tk' }) :
  (wpAny (model PySem.Challenge.rw_tl0048_02.prog w) (Ar 310 100 (envOfC (Str.ofString "law") (lawX w.params).1.2 L fa cdv) []) (execs ((lawX w.params).1.1.drop 18) (envOfC (Str.ofString "law") (lawX w.params).1.2 L fa cdv)) Q (fun _ _ => False) s) := by
  revert X; k_fill; intro X
  dsimp only [lawX, List.drop]
  obtain ⟨_, hs0, hs1, hs2, hs3⟩ := pair_chk hP
  obtain ⟨u1, u2, u3, u4⟩ := unpaid_ok9 hP
  have hm0 : (moveF fin one 0).2 = 0 := by rw [move_one, if_pos hab]
  k_steps
  (rename Fr _ _ _ _ => kF7); (rename News _ _ _ _ => kN7)
  refine hold_out (at_le rfl rfl (Nat.le_of_ble_eq_true rfl) (Nat.le_of_ble_eq_true rfl) (move_ok _ (by k_asm) (by exact kF7) (by k_asm) (by k_asm) rfl rfl (by exact (kN7 (x1, instObj 294 e1) (by k_mem)).1) (by exact (kN7 (e1, hdrD w.params k1 l1) (by k_mem)).1) (by exact P1.at kF7 kN7 (by walk_at "mine:tail")) (by exact news_one kN7 (.head _)) (by omega) hr3 (by omega) hs1 ?_))
  intro n1' it1' h9 tk9 t9 kb9 hl9 ht9
  obtain ⟨tl', kF8, kN8, P1', C', hM⟩ := tab_move (pre := [_, _, _, _, _, _, _]) kF7 kN7 (by walk_at "mine:lne") hC kb9 hl9 ht9
  clear kF7 kN7 P1 hM hC kb9 hl9 ht9
  dsimp only [List.cons_append, List.nil_append] at kN8
  have c3 := tl_cell kN8 (by walk_at "mine:tail") (by k_mem : (L + 1 + 1 + 1, o3) ∈ _) d3 C'
  have c4 := tl_cell kN8 (by walk_at "mine:tail") (by k_mem : (L + 1 + 1 + 1 + 1, o4) ∈ _) d4 C'
  rw [hm0]
  walk_at "mine:toite"
  simp only [bne_self_eq_false, Bool.false_eq_true, if_false]
  k_steps
  (rename Fr _ _ _ _ => kF7); (rename News _ _ _ _ => kN7)
  refine hold_out (at_le rfl rfl (Nat.le_of_ble_eq_true rfl) (Nat.le_of_ble_eq_true rfl) (rows_ok _ (by k_asm) (by exact kF7) (by k_asm) (by k_asm) rfl rfl (lp := xe) (by exact (kN7 (xe, lstO ev ne) (by k_mem)).1) hev (by omega) ?_))
  intro xr nr rv os h9 tk9 kp9 hn9 hq9 hp9 hs9 hi9
  have kN8 := news_add kF7 (news_keep kN7 kp9) hn9 hq9
  have kF8 := fr_keep kF7 kp9
  clear kF7 kN7 hn9 hq9 kp9
  have hcmp := hg os hp9 hs9
  have hrl : (rowsF os).length = 4 := by rw [rows_len, hp9.length_eq, hl3]
  generalize rowsF os = rs at *
  k_steps
  (rename Fr _ _ _ _ => kF7); (rename News _ _ _ _ => kN7)
  (rename (Obj.data _ = Data.cell (some (Value.ref _))) => dr)
  refine hold_out (at_le rfl rfl (Nat.le_of_ble_eq_true rfl) (Nat.le_of_ble_eq_true rfl) (unpaid_ok _ (by k_asm) (by exact kF7) (by k_asm) (by k_asm) rfl rfl hs0 hs1 hs2 hs3 rfl u3 u4 ?_))
  intro xu nu uv h9 tk9 kp9 hn9 hq9 hi9'
  have kN8 := news_add kF7 (news_keep kN7 kp9) hn9 hq9
  have kF8 := fr_keep kF7 kp9
  clear kF7 kN7 hn9 hq9 kp9
  k_steps
  (rename Fr _ _ _ _ => kF7); (rename News _ _ _ _ => kN7)
  refine hold_out (at_le rfl rfl (Nat.le_of_ble_eq_true rfl) (Nat.le_of_ble_eq_true rfl) (rows_ok _ (by k_asm) (by exact kF7) (by k_asm) (by k_asm) rfl rfl (lp := xu) (by exact (kN7 (xu, lstO uv nu) (by k_mem)).1) hi9' u1 ?_))
  intro xg ng gv os' h9 tk9 kp9 hn9 hq9 hp9' hs9' hi9''
  have kN8 := news_add kF7 (news_keep kN7 kp9) hn9 hq9
  have kF8 := fr_keep kF7 kp9
  clear kF7 kN7 hn9 hq9 kp9
  have eg : greatF one two = (rowsF os').reverse ++ [0, 0, 0, 0] := by unfold greatF; rw [sorted_eq hp9' hs9' u2]
  rw [eg] at hcmp
  have hgl : (rowsF os').length ≤ 20 := by rw [rows_len, hp9'.length_eq]; exact u1
  generalize rowsF os' = gs at *
  clear hp9' hs9' hp9 hs9 hi9' u1 u2 u3 u4
  k_steps
  (rename Fr _ _ _ _ => kF7); (rename News _ _ _ _ => kN7); (rename IsRange _ _ _ _ _ _ _ _ => hr9)
  (rename (Obj.data _ = Data.cell (some (Value.ref _))) => dg)
  (rename (IntsAre _ (_ ++ _)) => hig); (rename (IntsAre _ (List.reverse rs)) => hir)
  have hR : rs.reverse.length = 4 := by rw [List.length_reverse, hrl]
  have hG : 4 ≤ (gs.reverse ++ [0, 0, 0, 0]).length := by rw [List.length_append]; simp
  have x3 := (kN7 _ (by k_mem : (L + 1 + 1 + 1, _) ∈ _)).1
  have x4 := (kN7 _ (by k_mem : (L + 1 + 1 + 1 + 1, _) ∈ _)).1
  have x5 := cell_list kN7 dr (by k_mem)
  have x6 := cell_list kN7 dg (by k_mem)
  generalize rs.reverse = rr at *
  generalize gs.reverse ++ [0, 0, 0, 0] = gg at *
  refine ⟨_, _, _, _, _, _, rfl, hr9, ⟨by decide, by decide, by decide, by decide⟩, by rw [sizeLine_eq]; decide, fun i ys news => news = [] ∧ IntsAre ys [], ⟨rfl, .nil⟩, ?_, ?_⟩
  · rintro hb C D2 I2 oI2 i2 tv zs nD2 news mC h₁ tk₁ E' kb hi2 ⟨rfl, hst2⟩ FC NC hne hID
    have y3 := kb _ _ x3
    have y4 := kb _ _ x4
    have hl2 : hb.IsList _ _ := ⟨_, kb _ _ x5, rfl, _, rfl⟩
    have hl4 : hb.IsList _ _ := ⟨_, kb _ _ x6, rfl, _, rfl⟩
    rw [show (0 : Int) + (i2 : Int) = (i2 : Int) from Int.zero_add _]
    have hik : (i2 : Int) < rr.length := by omega
    have hig' : (i2 : Int) < gg.length := by omega
    have hi0 : (0 : Int) ≤ (i2 : Int) := Int.natCast_nonneg i2
    have hi5 : (i2 : Int) < 5 := by omega
    have hc := hcmp i2 (by omega)
    clear kF7 kN7 x3 x4 x5 x6
    refine name_assign FC NC rfl rfl fun h₂ F₂ N₂ => ?_
    clear FC NC
    k_steps
    any_goals (exfalso; simp only [Int.toNat_natCast] at *; omega)
    any_goals (show CompEnd _ _ _ _ _ _ _ _ _; (rename Fr _ _ _ _ => kF8); (rename News _ _ _ _ => kN8); exact ⟨_, _, _, [], rfl, kF8, kN8, hne, rfl, hst2⟩)
    all_goals (first | exact [] | exact (0 : Nat) | exact (Str.ofString "") | exact Value.none | exact default)
  · rintro zs D2 nD2 news h9 tk9 C mC ⟨rfl, hst2⟩ kk hD2 hD2' hnews hC hCD hns
    refine none_done kk hD2 hD2' hnews hC hCD hns fun h3 kk3 hw3 => ?_
    have kF6 := fr_keep kF7 kk3
    have kN6 := news_adds kF7 (news_keep kN7 kk3) hw3
    (try dsimp only [List.cons_append, List.nil_append] at kN6)
    show wpAny _ _ _ _ _ _
    clear kF7 kN7 hnews hw3 x3 x4 x5 x6
    iterate 4 (walk_at "mine:one")
    (rename Fr _ _ _ _ => kF8)
    exact hret _ _ _ kF8
theorem linesLaw2 : True := by
  w_top off
  k_with_none
  k_with "getMethod ref" => ((k_here; (with_reducible show wpAny _ _ (getMethod (Value.ref _) (Str.ofString "search") _) _ _ _); k_dflt (refine' search_meth (by k_asm) (by k_asm) (by k_is) ?_; k_whole)))
  k_with "call builtin:re.Pattern.search" => ((k_here; k_dflt (first
  | (refine' search_name (by k_asm) (by k_asm) (by k_is) (by k_is) (by decide +kernel) (by assumption) (by assumption) ?_; k_whole)
  | (refine' search_val (by k_asm) (by k_asm) (by k_is) (by k_is) (by decide +kernel) (by assumption) (by assumption) ?_; k_whole))))
  k_with "mine:le" => (exact Nat.le_of_ble_eq_true rfl)
  k_with "call builtin:str.lower" => ((k_here; (with_reducible show wpAny _ _ (call (Value.builtin "str.lower") [Value.str _ _]) _ _ _); k_dflt (refine' KXw.lower (by assumption) (by (exact low_fit (by assumption))) ?_; k_whole); intro t' k'))
  k_with "mine:moved" => (((rename Keep _ _ => kp9'); (with_reducible rename Fr _ _ _ _ => kF9); (with_reducible rename News _ _ _ _ => kN9); (replace kF9 := fr_keep kF9 kp9'); (replace kN9 := news_keep kN9 kp9'); (try dsimp only at kF9 kN9)))
  k_with "mine:movedN" => (((rename Keep _ _ => kp9'); (rename (Heap.get? _ _ = none) => hn9'); (rename (Heap.get? _ _ = some _) => hq9'); (with_reducible rename Fr _ _ _ _ => kF9); (with_reducible rename News _ _ _ _ => kN9); (replace kN9 := news_add kF9 (news_keep kN9 kp9') hn9' hq9'); (replace kF9 := fr_keep kF9 kp9'); (clear hn9' hq9'); (try dsimp only at kF9 kN9)))
  k_with "mine:app" => (repeat (first | exact .head _ | apply List.mem_append_right | apply List.mem_cons_of_mem))
  k_with "mine:tail" => ((intro p hp; (repeat (first | exact hp | apply List.mem_cons_of_mem))))
  k_with "mine:lne" => (first | exact List.forall_mem_nil _ | (refine' List.forall_mem_cons.mpr ⟨(by first | exact free_ne (by assumption) (by k_mem) (by k_mem) rfl | exact free_ne (by assumption) (by k_mem) (by k_mem) (cell_lfree (by assumption)) | assumption | exact Ne.symm (by assumption)), (by walk_at "mine:lne")⟩))
  k_with "mine:toite" => (iterate 60 (first | (with_reducible show (if (_ : Bool) = true then _ else _)) | walk_at "mine:one"))
  k_with "mine:allt" => (first | (refine' List.forall_mem_cons.mpr ⟨(by k_mem), (by walk_at "mine:allt")⟩) | exact List.forall_mem_nil _ | (intro p hp; (repeat (first | exact hp | apply List.mem_cons_of_mem))))
  trivial
-- room for a contract at its place
-- a written text's lower case is named by a fact
-- behind a contract: the frame's and the ledger's facts at the new heap
-- behind a contract that made an object: its fact joins the ledger

set_option maxHeartbeats 400000 in
theorem law2_ok (w : World) {p : Program} {loose : List Str} {mean : ExcName → Option Value} {mg mb : Str → Option Value} {A₀ : Around} {base h₀ : Heap} {L fa ls : Addr} {cdv : Value} {s : Shared} {Q : Flow → Shared → Prop}
  (B : Below A₀ base [] h₀) (F : Fr h₀ L s.heap (fun y => if y = Str.ofString "script" then some (.ref ls) else none)) (X : (Mine.KK w.params).In h₀) (T : Top p loose mean mg mb h₀)
  {o1 o2 o3 o4 : Obj} (N : News h₀ L s.heap [(L + 1 + 1 + 1 + 1, o4), (L + 1 + 1 + 1, o3), (L + 1 + 1, o2), (L + 1, o1)])
  (d4 : o4.data = .cell none) (d3 : o3.data = .cell none) (d2 : o2.data = .cell none) (d1 : o1.data = .cell none)
  {vs : List Value} {ns : List Int} (hl : h₀.IsList ls vs.toArray) (hi : IntsAre vs ns) (hlen : ns.length ≤ 63)
  (hret : ∀ h' tk' m', Fr h₀ L h' m' → Q (.ret (.bool true)) { s with heap := h', toks := tk' }) :
  wpAny (model PySem.Challenge.rw_tl0048_02.prog w) (Ar 310 100 (envOfC (Str.ofString "law") (lawX w.params).1.2 L fa cdv) []) (execs (lawX w.params).1.1 (envOfC (Str.ofString "law") (lawX w.params).1.2 L fa cdv)) Q (fun _ _ => False) s := by
  with_reducible refine lawA_ok w B F X T N d4 d3 d2 d1 hl hi hlen ?_
  intro hA tkA one two t1 t2 lp pv nP a b c d o1' v1' hP ha hb hc hd FA NA dA hpv
  obtain ⟨_, p1, p2, p3, p4⟩ := pair_chk hP
  obtain ⟨n1, n2, n3, n4⟩ := start_ok ha hb hc hd
  have hs0 : 1 ≤ one := by omega
  have hs2 : 1 ≤ two := by omega
  with_reducible refine lawB_ok w B FA X T NA d4 d3 d2 dA hl hi hlen hpv (by omega) n3 hs0 p2 ?_
  intro hB tkB ts x1 e1 l1 k1 m1 it1 x2 e2 l2 k2 m2 it2 tl FB NB P1 P2 C y3 y1 y2
  obtain ⟨r1, r2⟩ := move_rng (c := ns.sum) n3 hs0
  obtain ⟨r3, r4⟩ := move_rng (c := -1) n3 hs0
  with_reducible refine lawC_ok w B FB X T NB P1 P2 (by omega) (by omega) r1 r3 ?_
  intro hC tkC xh xt FC NC
  with_reducible refine lawD_ok w B FC X T NC d4 d3 d2 dA P1 P2 C y3 y1 y2 hl hi hlen (by omega) n3 n1 hs0 p2 ?_
  intro hD tkD mid xm nm mv n1' it1' tl' va tm k M1 E1 FD ND P1' C' hmv y4
  with_reducible refine lawE_ok w B FD X T ND d4 d3 d2 dA P1' C' y1 y4 hmv hpv hl hi hlen hP ha hb hc hd M1 E1 ?_
  intro hE tkE fin xe ne ev n1'' it1'' tl'' ta m M2 E2 FE NE P1'' C'' hev y5
  obtain ⟨_, _, _, hab, hfl, hg, hm1, hm2⟩ := law2_all hP ha hb hc hd M1 E1 M2 E2
  obtain ⟨g1, _, _⟩ := moves_facts n3 hs0 M1
  obtain ⟨g3, _, _⟩ := moves_facts g1 hs2 M2
  obtain ⟨_, _, _, hml⟩ := moves_inv n1 hs0 M1
  with_reducible refine lawF_ok w B FE X T NE d4 d3 d2 dA C'' hpv hmv hev n4 (hml.trans n4) hfl n3 g1 g3 p1 p2 p3 p4 hm1 hm2 ?_
  intro hF tkF o2' v2' f FF d2' NF
  have NG : News h₀ L hF ((l1, lstO it1'' n1'') :: (x1, instObj 294 e1) :: (e1, hdrD w.params k1 l1) :: (xe, lstO ev ne) :: (L + 1 + 1 + 1 + 1, o4) :: (L + 1 + 1 + 1, o3) :: (L + 1 + 1, o2') :: (L + 1, o1') :: tl'') := News.of_mem NF (by walk_at "mine:allt")
  with_reducible refine lawG_ok w B FF X T NG d4 d3 d2' dA P1'' C'' y5 hev hfl g3 hP hab hg ?_
  exact hret
theorem law2_in (w : World) {p : Program} {loose : List Str} {mean : ExcName → Option Value} {mg mb : Str → Option Value} {A₀ : Around} {base h₀ : Heap} {L fa ls : Addr} {cdv : Value} {s : Shared} {Q : Flow → Shared → Prop} {E : Value → Shared → Prop} {M : Model} {A : Around} {env : Env} {body : List Stmt}
  (hM : M = model PySem.Challenge.rw_tl0048_02.prog w) (henv : env = envOfC (Str.ofString "law") (lawX w.params).1.2 L fa cdv) (hbody : body = (lawX w.params).1.1) (hh : A.handled = none) (hf : A.frames = some (env :: [])) (hd : A.depth ≤ 310) (hu : A.units ≤ 100)
  (B : Below A₀ base [] h₀) (F : Fr h₀ L s.heap (fun y => if y = Str.ofString "script" then some (.ref ls) else none)) (X : (Mine.KK w.params).In h₀) (T : Top p loose mean mg mb h₀)
  {o1 o2 o3 o4 : Obj} (N : News h₀ L s.heap [(L + 1 + 1 + 1 + 1, o4), (L + 1 + 1 + 1, o3), (L + 1 + 1, o2), (L + 1, o1)])
  (d4 : o4.data = .cell none) (d3 : o3.data = .cell none) (d2 : o2.data = .cell none) (d1 : o1.data = .cell none)
  {vs : List Value} {ns : List Int} (hl : h₀.IsList ls vs.toArray) (hi : IntsAre vs ns) (hlen : ns.length ≤ 63)
  (hret : ∀ h' tk' m', Fr h₀ L h' m' → Q (.ret (.bool true)) { s with heap := h', toks := tk' }) :
  wpAny M A (execs body env) Q E s := by
  subst hM henv hbody
  with_reducible refine wpAny_mono (Q := Q) (E := fun _ _ => False) ?_ (fun _ _ h => h) (fun _ _ h => h.elim)
  with_reducible refine at_le hh hf hd hu ?_
  with_reducible refine law2_ok w B F X T N d4 d3 d2 d1 hl hi hlen ?_
  exact hret
theorem linesMain2 : True := by
  w_top off
  k_with_none
  k_with "getMethod ref" => ((k_here; (with_reducible show wpAny _ _ (getMethod (Value.ref _) (Str.ofString "search") _) _ _ _); k_dflt (refine' search_meth (by k_asm) (by k_asm) (by k_is) ?_; k_whole)))
  k_with "call builtin:re.Pattern.search" => ((k_here; k_dflt (first
  | (refine' search_name (by k_asm) (by k_asm) (by k_is) (by k_is) (by decide +kernel) (by assumption) (by assumption) ?_; k_whole)
  | (refine' search_val (by k_asm) (by k_asm) (by k_is) (by k_is) (by decide +kernel) (by assumption) (by assumption) ?_; k_whole))))
  k_with "mine:le" => (exact Nat.le_of_ble_eq_true rfl)
  k_with "call builtin:str.lower" => ((k_here; (with_reducible show wpAny _ _ (call (Value.builtin "str.lower") [Value.str _ _]) _ _ _); k_dflt (refine' KXw.lower (by assumption) (by (exact low_fit (by assumption))) ?_; k_whole); intro t' k'))
  k_with "mine:moved" => (((rename Keep _ _ => kp9'); (with_reducible rename Fr _ _ _ _ => kF9); (with_reducible rename News _ _ _ _ => kN9); (replace kF9 := fr_keep kF9 kp9'); (replace kN9 := news_keep kN9 kp9'); (try dsimp only at kF9 kN9)))
  k_with "mine:movedN" => (((rename Keep _ _ => kp9'); (rename (Heap.get? _ _ = none) => hn9'); (rename (Heap.get? _ _ = some _) => hq9'); (with_reducible rename Fr _ _ _ _ => kF9); (with_reducible rename News _ _ _ _ => kN9); (replace kN9 := news_add kF9 (news_keep kN9 kp9') hn9' hq9'); (replace kF9 := fr_keep kF9 kp9'); (clear hn9' hq9'); (try dsimp only at kF9 kN9)))
  k_with "mine:one" => ((first | (k_unfold; (try dsimp only)) | (k_end; wrow_close) | walk1 | (dsimp only; walk1)))
  trivial
-- room for a contract at its place
-- a written text's lower case is named by a fact
-- behind a contract: the frame's and the ledger's facts at the new heap
-- behind a contract that made an object: its fact joins the ledger

theorem full.tw4816591812421909578 : True := trivial
theorem full.tw4235701041055172277 : True := trivial
theorem full.tw417895159654752748 : True := trivial
theorem full.tw11374990017405112653 : True := trivial
theorem full.tw275046140816329677 : True := trivial
theorem full.tw7303645486531224928 : True := trivial
theorem full.tw14563928473693663315 : True := trivial
theorem full.tw8603230625631601248 : True := trivial
theorem full.tw12835546934027469733 : True := trivial
theorem full.tw1626402130094767589 : True := trivial
theorem full.tw9618513371791378263 : True := trivial
theorem full.tw17266542466226172174 : True := trivial
theorem full.tw7745496751089155138 : True := trivial
theorem full.tw11335817611954811831 : True := trivial
theorem full.tw13413529370484778932 : True := trivial
theorem full.tw6992569259702089164 : True := trivial
theorem full.tw6179000272346577304 : True := trivial
theorem full.tw1536178991699228400 : True := trivial
theorem full.tw1396306861701036367 : True := trivial
theorem full.tw15324466914463080191 : True := trivial
theorem full.tw6445740039160268759 : True := trivial
theorem full.tw4808179450076648264 : True := trivial
theorem full.tw4064718651420027450 : True := trivial
theorem full.tw11638976440873888969 : True := trivial
theorem full.tw2785345493094400709 : True := trivial
theorem full.tw16207660574818365353 : True := trivial
theorem full.tw4457556567760859914 : True := trivial
theorem full.tw716534308969972359 : True := trivial
theorem full.tw8269250198085889388 : True := trivial
theorem full.tw10476952820969954081 : True := trivial
theorem full.tw1165471384468526413 : True := trivial
theorem full.tw3551964886583278306 : True := trivial
theorem full.tw16781666043074234 : True := trivial
theorem full.tw6380568671671786600 : True := trivial
theorem full.tw5492863923959432978 : True := trivial
theorem full.tw9901254358981970422 : True := trivial
theorem full.tw5509460020874846337 : True := trivial
theorem full.tw7378781336674269420 : True := trivial
theorem full.tw8953899766716459607 : True := trivial
theorem full.tw7951935102366509262 : True := trivial
theorem full.tw15293206088939532066 : True := trivial
theorem full.tw18333262868939490472 : True := trivial
theorem full.tw17886813776507289139 : True := trivial
theorem full.tw10239661803321945758 : True := trivial
theorem full.tw4252678805798429035 : True := trivial
theorem full.tw11663832653172272281 : True := trivial
theorem full.tw16765017190783481826 : True := trivial
theorem full.tw13114324793614977435 : True := trivial
theorem full.tw7725613307050697535 : True := trivial
theorem full.tw4744428866162695648 : True := trivial
theorem full.tw18212191460328714895 : True := trivial
theorem full.tw5381854913813138957 : True := trivial
theorem full.tw15938899008628717000 : True := trivial
theorem full.tw16898384207263720307 : True := trivial
theorem full.tw10661490236997358434 : True := trivial
theorem full.tw8855480023314820150 : True := trivial
theorem full.tw17942676858139727625 : True := trivial
theorem full.tw13664843122935997671 : True := trivial
theorem full.tw15515674114414527202 : True := trivial
theorem full.tw7158520838589537875 : True := trivial
theorem full.tw3074867405770681381 : True := trivial
theorem full.tw300676122907602048 : True := trivial
theorem full.tw16057783639799137776 : True := trivial
theorem full.tw6353484110739849953 : True := trivial
theorem full.tw1022691341184328843 : True := trivial
theorem full.tw7736349363400490797 : True := trivial
theorem full.tw5282550952473652981 : True := trivial
theorem full.tw13439702524432754496 : True := trivial
theorem full.tw12000010725639032982 : True := trivial
theorem full.tw8704337687631144644 : True := trivial
theorem full.tw14133995448070676212 : True := trivial
theorem full.tw7665852083740532796 : True := trivial
theorem full.tw944794918701187124 : True := trivial
theorem full.tw14232039422012124685 : True := trivial
theorem full.tw14826869116431125520 : True := trivial
theorem full.tw1414550745984480422 : True := trivial
theorem full.tw4955464480370160560 : True := trivial
theorem full.tw5857434819722849479 : True := trivial
theorem full.tw15152063728245783042 : True := trivial
theorem full.tw14601229177553261327 : True := trivial
theorem full.tw7092392456540576586 : True := trivial
theorem full.tw9710976007127552416 : True := trivial
theorem full.tw10629293421532910158 : True := trivial
theorem full.tw11046104375116167685 : True := trivial
theorem full.tw3598115861763484166 : True := trivial
theorem full.tw17689474972114599021 : True := trivial
theorem full.tw6099104844284285825 : True := trivial
theorem full.tw8394791888478915366 : True := trivial
theorem full.tw702965199726829560 : True := trivial
theorem full.tw8272365368707067837 : True := trivial
theorem full.tw2770573830885221853 : True := trivial
theorem full.tw4805669822576718056 : True := trivial
theorem full.tw11617974664078190034 : True := trivial
theorem full.tw2873286849558101908 : True := trivial
theorem full.tw1903310025491268573 : True := trivial
theorem full.tw8808533989164028730 : True := trivial
theorem full.tw4352307031798623991 : True := trivial
theorem full.tw10289159785192752064 : True := trivial
theorem full.tw14053304311172302407 : True := trivial
theorem full.tw4406416844697833216 : True := trivial
theorem full.tw17267679152123887330 : True := trivial
theorem full.tw14825795306491955280 : True := trivial
theorem full.tw6228904164959162592 : True := trivial
theorem full.tw392425806844962523 : True := trivial
theorem full.tw13596732716755994453 : True := trivial
theorem full.tw3584406003234992203 : True := trivial
theorem full.tw4031268215884047021 : True := trivial
theorem full.tw16720181133801578465 : True := trivial
theorem full.tw18355454585526092356 : True := trivial
theorem full.tw7599321223699784198 : True := trivial
theorem full.tw5029900474958705137 : True := trivial
theorem full.tw5759505219088364482 : True := trivial
theorem full.tw15425669028361891807 : True := trivial
theorem full.tw9463699770342788589 : True := trivial
theorem full.tw13349774001590647218 : True := trivial
theorem full.tw10315126547362828959 : True := trivial
theorem full.tw15480787216011216146 : True := trivial
theorem full.tw14751614692483622125 : True := trivial
theorem full.tw1788995147439822109 : True := trivial
theorem full.tw11012349392956578955 : True := trivial
theorem full.tw15365972864339695236 : True := trivial
theorem full.tw6944576803641709933 : True := trivial
theorem full.tw6486019159615943264 : True := trivial
theorem full.tw732867316064127185 : True := trivial
theorem full.tw16594439816569451990 : True := trivial
theorem full.tw1279443813845927036 : True := trivial
theorem full.tw10522144204028987312 : True := trivial
theorem full.tw6950830894669976437 : True := trivial
theorem full.tw12682972203538691057 : True := trivial
theorem full.tw17083205144533159100 : True := trivial
theorem full.tw4738091453826675227 : True := trivial
theorem full.tw12503060336109572684 : True := trivial
theorem full.tw11308610406348220924 : True := trivial
theorem full.tw10058577574024574364 : True := trivial
theorem full.tw398036350331335981 : True := trivial
theorem full.tw9697011034788594424 : True := trivial
theorem full.tw11122422496487938370 : True := trivial
theorem full.tw15535244580015237103 : True := trivial
theorem full.tw11318551758115734711 : True := trivial
theorem full.tw14114849073789186263 : True := trivial
theorem full.tw14141463827536537206 : True := trivial
theorem full.tw12209861775083836534 : True := trivial
theorem full.tw6825632655279718684 : True := trivial
theorem full.tw10336513127204130116 : True := trivial
theorem full.tw1242124448493110910 : True := trivial
theorem full.tw2349605129697969679 : True := trivial
theorem full.tw5682047602113002614 : True := trivial
theorem full.tw6271458312169414215 : True := trivial
theorem full.tw5544772742947588388 : True := trivial
theorem full.tw9615258859266979901 : True := trivial
theorem full.tw7579334578078215152 : True := trivial
theorem full.tw12071708899648606223 : True := trivial
theorem full.tw8262720897703384389 : True := trivial
theorem full.tw10238797713556107170 : True := trivial
theorem full.tw6920258544493655085 : True := trivial
theorem full.tw15811999520534011006 : True := trivial
theorem full.tw6672839997719076403 : True := trivial
theorem full.tw16555859157311820610 : True := trivial
theorem full.tw17338747002267288062 : True := trivial
theorem full.tw15404234420317857688 : True := trivial
theorem full.tw12008796502716149832 : True := trivial
theorem full.tw6736623609300863169 : True := trivial
theorem full.tw301061895913993959 : True := trivial
theorem full.tw6556901108204871415 : True := trivial
theorem full.tw6884248584316782043 : True := trivial
theorem full.tw5948280430324124986 : True := trivial
theorem full.tw6815140966758413289 : True := trivial
theorem full.tw16707945522240287129 : True := trivial
theorem full.tw10471768711036345735 : True := trivial
theorem full.tw14035473593455056871 : True := trivial
theorem full.tw1876527205830516908 : True := trivial
theorem full.tw8561796302800977683 : True := trivial
theorem full.tw7278752870399042195 : True := trivial
theorem full.tw4380286236567510117 : True := trivial
theorem full.tw16216338415699250113 : True := trivial
theorem full.tw11575563310914992923 : True := trivial
theorem full.tw10099810201672782574 : True := trivial
theorem full.tw11706430506499652095 : True := trivial
theorem full.tw15556424768017227025 : True := trivial
theorem full.tw8891245737523954289 : True := trivial
theorem full.tw9884993627858349568 : True := trivial
theorem full.tw14997944707764041712 : True := trivial
theorem full.tw4049127265623074924 : True := trivial
theorem full.tw2206435800629952415 : True := trivial
theorem full.tw9572124403037091105 : True := trivial
theorem full.tw4567572250574039462 : True := trivial
theorem full.tw5925205790368124695 : True := trivial
theorem full.tw4351223346371957848 : True := trivial
theorem full.tw17893229296603542793 : True := trivial
theorem full.tw15061893733373917298 : True := trivial
theorem full.tw10523334804811867281 : True := trivial
theorem full.tw5422758813169936364 : True := trivial
theorem full.tw8657502563033550123 : True := trivial
theorem full.tw6168332711559986063 : True := trivial
theorem full.tw221643357159484495 : True := trivial
theorem full.tw3736687901867771558 : True := trivial
theorem full.tw2128767186505223983 : True := trivial
theorem full.tw8787504416166006754 : True := trivial
theorem full.tw12510887631423993158 : True := trivial
theorem full.tw3233751410490263057 : True := trivial
theorem full.tw5900227713041404788 : True := trivial
theorem full.tw3151294536367638112 : True := trivial
theorem full.tw13363460695704816469 : True := trivial
theorem full.tw3268744023281791443 : True := trivial
theorem full.tw1073202380426942060 : True := trivial
theorem full.tw6594136495501721373 : True := trivial
theorem full.tw8206991428424547384 : True := trivial
theorem full.tw65289015581082023 : True := trivial
theorem full.tw8748157997368740455 : True := trivial
theorem full.tw16430728454803687029 : True := trivial
theorem full.tw286800389447288500 : True := trivial
theorem full.tw16065959130527363246 : True := trivial
theorem full.tw5535878885620693931 : True := trivial
theorem full.tw6620067775542519237 : True := trivial
theorem full.tw16151893145073508728 : True := trivial
theorem full.tw6163273239907124716 : True := trivial
theorem full.tw10753861260644461492 : True := trivial
theorem full.tw15014038445329843491 : True := trivial
theorem full.tw16327023796516058554 : True := trivial
theorem full.tw13255975068538222646 : True := trivial
theorem full.tw16512653442950313008 : True := trivial
theorem full.tw14149004962498151908 : True := trivial
theorem full.tw1950861315625182565 : True := trivial
theorem full.tw5386044323488801251 : True := trivial
theorem full.tw15198457410958232496 : True := trivial
theorem full.tw4347655280433269075 : True := trivial
theorem full.tw7582897303308423066 : True := trivial
theorem full.tw3154242474410549385 : True := trivial
theorem full.tw11776947777563325483 : True := trivial
theorem full.tw8087204793110855947 : True := trivial
theorem full.tw17775034362751476707 : True := trivial
theorem full.tw3706045208245478433 : True := trivial
theorem full.tw17004943446660451770 : True := trivial
theorem full.tw942446105021267115 : True := trivial
theorem full.tw8394686606706294495 : True := trivial
theorem full.tw18150794118195216262 : True := trivial
theorem full.tw17723378861867900490 : True := trivial
theorem full.tw529766649004858842 : True := trivial
theorem full.tw7808993875735245847 : True := trivial
theorem full.tw2389105362481172583 : True := trivial
theorem full.tw16679832315498805117 : True := trivial
theorem full.tw14966042987864815570 : True := trivial
theorem full.tw8664349207377230439 : True := trivial
theorem full.tw14951004823831939669 : True := trivial
theorem full.tw10999917518397859550 : True := trivial
theorem full.tw5786081165281747406 : True := trivial
theorem full.tw903472486454055006 : True := trivial
theorem full.tw6052989939191174618 : True := trivial
theorem full.tw11327200432211763752 : True := trivial
theorem full.tw8132172311274790425 : True := trivial
theorem full.tw3232044202909569652 : True := trivial
theorem full.tw2480281153365169192 : True := trivial
theorem full.tw9058364288853453931 : True := trivial
theorem full.tw13360761963981459161 : True := trivial
theorem full.tw13206371902811503275 : True := trivial
theorem full.tw12699127712464507901 : True := trivial
theorem full.tw8317929246273884311 : True := trivial
theorem full.tw12201420660098112460 : True := trivial
theorem full.tw3668233331926385649 : True := trivial
theorem full.tw11137380810381734955 : True := trivial
theorem full.tw4889209172316861123 : True := trivial
theorem full.tw16075942029494575958 : True := trivial
theorem full.tw15288694770036602499 : True := trivial
theorem full.tw2591734982429093664 : True := trivial
theorem full.tw8928122229748793854 : True := trivial
theorem full.tw1855560707812728542 : True := trivial
theorem full.tw12534646372283597694 : True := trivial
theorem full.tw11549231204836878072 : True := trivial
theorem full.tw17798480564593736690 : True := trivial
theorem full.tw1211063515210521810 : True := trivial
theorem full.tw13445986757845065949 : True := trivial
theorem full.tw13724232737156196217 : True := trivial
theorem full.tw6238324861332237731 : True := trivial
theorem full.tw13109922678641308700 : True := trivial
theorem full.tw5752929057913303188 : True := trivial
theorem full.tw2761588411073308090 : True := trivial
theorem full.tw15451152587662761239 : True := trivial
theorem full.tw10584421571784138710 : True := trivial
theorem full.tw10044004973979984086 : True := trivial
theorem full.tw15366602624273109254 : True := trivial
theorem full.tw10511154541286301077 : True := trivial
theorem full.tw7131170267636462205 : True := trivial
theorem full.tw8387840408119837717 : True := trivial
theorem full.tw2162528594682109041 : True := trivial
theorem full.tw2684714846923487648 : True := trivial
theorem full.tw2733898907513404027 : True := trivial
theorem full.tw9700387166480054322 : True := trivial
theorem full.tw4274484520674965014 : True := trivial
theorem full.tw1654689034646518401 : True := trivial
theorem full.tw13323696315467283377 : True := trivial
theorem full.tw14743107697618757539 : True := trivial
theorem full.tw1759280185930219272 : True := trivial
theorem full.tw11080243573434589766 : True := trivial
theorem full.tw15686085006978758687 : True := trivial
theorem full.tw10833839000079978694 : True := trivial
theorem full.tw16895622630620874535 : True := trivial
theorem full.tw2852006377908092607 : True := trivial
theorem full.tw17920807653497875221 : True := trivial
theorem full.tw12120921201514345242 : True := trivial
theorem full.tw13873154135419894587 : True := trivial
theorem full.tw8711922013781254711 : True := trivial
theorem full.tw15986973977355863385 : True := trivial
theorem full.tw1480872583038545627 : True := trivial
theorem full.tw7827235550486974308 : True := trivial
theorem full.tw2980166450680593463 : True := trivial
theorem full.tw1574025134456709533 : True := trivial
theorem full.tw10154203000130183936 : True := trivial
theorem full.tw14989544988372881728 : True := trivial
theorem full.tw10737930562488058974 : True := trivial
theorem full.tw2990130216542703942 : True := trivial
theorem full.tw15301770139290944989 : True := trivial
theorem full.tw14995295552182904705 : True := trivial
theorem full.tw579738225530823024 : True := trivial
theorem full.tw14385243217120903012 : True := trivial
theorem full.tw4267676916070951782 : True := trivial
theorem full.tw1993434756958257784 : True := trivial
theorem full.tw15759552328865419553 : True := trivial
theorem full.tw12726279724704100588 : True := trivial
theorem full.tw5966566993688906189 : True := trivial
theorem full.tw8482612540683590099 : True := trivial
theorem full.tw9090814584095381634 : True := trivial
theorem full.tw9728912150219517941 : True := trivial
theorem full.tw8395922891652165829 : True := trivial
theorem full.tw9289601388430287860 : True := trivial
theorem full.tw12906538783935054051 : True := trivial
theorem full.tw6433780572305707332 : True := trivial
theorem full.tw10943123321615187933 : True := trivial
theorem full.tw8752859239410247886 : True := trivial
theorem full.tw16094889608958366657 : True := trivial
theorem full.tw12852718221353495838 : True := trivial
theorem full.tw5437773020673299815 : True := trivial
theorem full.tw5303964818821370564 : True := trivial
theorem full.tw11493576384789067057 : True := trivial
theorem full.tw15663911360969588229 : True := trivial
theorem full.tw7760846758221951376 : True := trivial
theorem full.tw11960966076801674058 : True := trivial
theorem full.tw13350094170779742733 : True := trivial
theorem full.tw368848132596542522 : True := trivial
theorem full.tw10690100743018327797 : True := trivial
theorem full.tw8885906027184869317 : True := trivial
theorem full.tw13344701976201838940 : True := trivial
theorem full.tw16965897318940482146 : True := trivial
theorem full.tw12461475684507043913 : True := trivial
theorem full.tw3131353033834984021 : True := trivial
theorem full.tw3936555120959827598 : True := trivial
theorem full.tw2494876273201302684 : True := trivial
theorem full.tw15290173765476930018 : True := trivial
theorem full.tw14525309893458441384 : True := trivial
theorem full.tw14519895646158269138 : True := trivial
theorem full.tw3773688007414732287 : True := trivial
theorem full.tw15935885622226970858 : True := trivial
theorem full.tw5925920040966042947 : True := trivial
theorem full.tw8059249218633905642 : True := trivial
theorem full.tw8366604816176576000 : True := trivial
theorem full.tw7019417234640167823 : True := trivial
theorem full.tw11572309708020545144 : True := trivial
theorem full.tw10432563577847127286 : True := trivial
theorem full.tw10707520121678838375 : True := trivial
theorem full.tw13635689181921532713 : True := trivial
theorem full.tw6072008814311701462 : True := trivial
theorem full.tw2944728298462038992 : True := trivial
theorem full.tw6888438530136737098 : True := trivial
theorem full.tw13757378850800150669 : True := trivial
theorem full.tw11400944682322770012 : True := trivial
theorem full.tw13908049897637574844 : True := trivial
theorem full.tw6250020845744213923 : True := trivial
theorem full.tw3264736272873362129 : True := trivial
theorem full.tw8484872534547232000 : True := trivial
theorem full.tw3900135618371658090 : True := trivial
theorem full.tw6600477288646320866 : True := trivial
theorem full.tw7473066239276428439 : True := trivial
theorem full.tw11199851383410481998 : True := trivial
theorem full.tw14394617497563192582 : True := trivial
theorem full.tw8958678961931773978 : True := trivial
theorem full.tw2990715617431631095 : True := trivial
theorem full.tw10169622171864806665 : True := trivial
theorem full.tw2875884781571890325 : True := trivial
theorem full.tw10425936204090789723 : True := trivial
theorem full.tw17068371156075486617 : True := trivial
theorem full.tw6925235004681894675 : True := trivial
theorem full.tw15625747840792060359 : True := trivial
theorem full.tw10365730805864414925 : True := trivial
theorem full.tw1401657419735904590 : True := trivial
theorem full.tw11485654199138315635 : True := trivial
theorem full.tw9524404869473200992 : True := trivial
theorem full.tw912229808165834479 : True := trivial
theorem full.tw3266032227623398578 : True := trivial
theorem full.tw15452365573506578488 : True := trivial
theorem full.tw1311718872471286491 : True := trivial
theorem full.tw11355726120139904686 : True := trivial
theorem full.tw10399231473978090736 : True := trivial
theorem full.tw16758241416206632806 : True := trivial
theorem full.tw7813606124596901338 : True := trivial
theorem full.tw8787446538639537632 : True := trivial
theorem full.tw17264974906918413939 : True := trivial
theorem full.tw18349740399517581384 : True := trivial
theorem full.tw10008416791420010333 : True := trivial
theorem full.tw18210081286698975108 : True := trivial
theorem full.tw6080365437653941369 : True := trivial
theorem full.tw6151997009787390408 : True := trivial
theorem full.tw16278696065095495023 : True := trivial
theorem full.tw10579768551346324838 : True := trivial
theorem full.tw1833952895126055435 : True := trivial
theorem full.tw16969604304810760469 : True := trivial
theorem full.tw15372674781142766310 : True := trivial
theorem full.tw9426729187488167829 : True := trivial
theorem full.tw895687212428129010 : True := trivial
theorem full.tw6049194144309326838 : True := trivial
theorem full.tw444383336748282573 : True := trivial
theorem full.tw7177737425375975225 : True := trivial
theorem full.tw11144335664311342185 : True := trivial
theorem full.tw9411954165710882493 : True := trivial
theorem full.tw8201836434073664986 : True := trivial
theorem full.tw10116231896318920431 : True := trivial
theorem full.tw5382779993265464898 : True := trivial
theorem full.tw16958586612238663074 : True := trivial
theorem full.tw17422715905552211546 : True := trivial
theorem full.tw13381362741900151198 : True := trivial
theorem full.tw4569838596026865746 : True := trivial
theorem full.tw6033910327194577886 : True := trivial
theorem full.tw6240018614722566428 : True := trivial
theorem full.tw9676820491878665511 : True := trivial
theorem full.tw12572964050949358182 : True := trivial
theorem full.tw6646130889840701087 : True := trivial
theorem full.tw16983313192677921902 : True := trivial
theorem full.tw408107918927298379 : True := trivial
theorem full.tw8796530759083398078 : True := trivial
theorem full.tw7727356423644859386 : True := trivial
theorem full.tw3306121094256404559 : True := trivial
theorem full.tw5510481351154163676 : True := trivial
theorem full.tw10654203438237487823 : True := trivial
theorem full.tw16890319008746387904 : True := trivial
theorem full.tw16177985689984295990 : True := trivial
theorem full.tw17055003478023090044 : True := trivial
theorem full.tw8301998633200356070 : True := trivial
theorem full.tw2829592158698930827 : True := trivial
theorem full.tw1783013729509102421 : True := trivial
theorem full.tw2392243291747233188 : True := trivial
theorem full.tw15835549087968597700 : True := trivial
theorem full.tw2363864652939715732 : True := trivial
theorem full.tw13366627882410861781 : True := trivial
theorem full.tw9548440600761387106 : True := trivial
theorem full.tw15858412657240618706 : True := trivial
theorem full.tw16396778489674997278 : True := trivial
theorem full.tw1190904048939085871 : True := trivial
theorem full.tw7368405569717055584 : True := trivial
theorem full.tw12417339414431612926 : True := trivial
theorem full.tw2151402439712508279 : True := trivial
theorem full.tw5656626762239266745 : True := trivial
theorem full.tw4061839812228532617 : True := trivial
theorem full.tw9989504048551468567 : True := trivial
theorem full.tw11176473078578959018 : True := trivial
theorem full.tw7744629890359268331 : True := trivial
theorem full.tw8192264733714476864 : True := trivial
theorem full.tw3949623828437616108 : True := trivial
theorem full.tw10870253052197608064 : True := trivial
theorem full.tw3088225400990770666 : True := trivial
theorem full.tw9198556238453067962 : True := trivial
theorem full.tw17830452192213131111 : True := trivial
theorem full.tw9284979354284186635 : True := trivial
theorem full.tw1880930990523916890 : True := trivial
theorem full.tw6975924816257417180 : True := trivial
theorem full.tw2069758657272074427 : True := trivial
theorem full.tw15537054207046128594 : True := trivial
theorem full.tw13673761621179225811 : True := trivial
theorem full.tw376261716764100633 : True := trivial
theorem full.tw17210057961789136041 : True := trivial
theorem full.tw8712178595889190699 : True := trivial
theorem full.tw9814274041183264533 : True := trivial
theorem full.tw3465840379565336882 : True := trivial
theorem full.tw211461517061881589 : True := trivial
theorem full.tw9039653459481289975 : True := trivial
theorem full.tw5149844798478595827 : True := trivial
theorem full.tw18270706379053667699 : True := trivial
theorem full.tw7817904493312662296 : True := trivial
theorem full.tw2154481099389928933 : True := trivial
theorem full.tw16530862177621653590 : True := trivial
theorem full.tw13818052312932839251 : True := trivial
theorem full.tw8863991746502703696 : True := trivial
theorem full.tw4326231988619314065 : True := trivial
theorem full.tw18161255526204805683 : True := trivial
theorem full.tw8547043966414234884 : True := trivial
theorem full.tw582376832261475058 : True := trivial
theorem full.tw11013502027919801188 : True := trivial
theorem full.tw14367917121605154638 : True := trivial
theorem full.tw15163854439152409748 : True := trivial
theorem full.tw6718728020952735092 : True := trivial
theorem full.tw8843835832881325711 : True := trivial
theorem full.tw607485027135671481 : True := trivial
theorem full.tw13891793165730241541 : True := trivial
theorem full.tw7827417266115643176 : True := trivial
theorem full.tw2633967428434653502 : True := trivial
theorem full.tw6266797788551933052 : True := trivial
theorem full.tw10442752806710989835 : True := trivial
theorem full.tw8217698424225253309 : True := trivial
theorem full.tw414191944975207698 : True := trivial
theorem full.tw10721319937860348172 : True := trivial
theorem full.tw4696907024446595207 : True := trivial
theorem full.tw274928295979168278 : True := trivial
theorem full.tw3424675334128828711 : True := trivial
theorem full.tw6523949271833368105 : True := trivial
theorem full.tw17088433815945018224 : True := trivial
theorem full.tw17964024066438716674 : True := trivial
theorem full.tw6471808668561041927 : True := trivial
theorem full.tw12419947654870774400 : True := trivial
theorem full.tw15523430814340932405 : True := trivial
theorem full.tw7276575812865992436 : True := trivial
theorem full.tw5459252164308662576 : True := trivial
theorem full.tw9367510186574277660 : True := trivial
theorem full.tw3372920989344433049 : True := trivial
theorem full.tw17550345046764839743 : True := trivial
theorem full.tw12430000426737808289 : True := trivial
theorem full.tw926665004627461363 : True := trivial
theorem full.tw18299666583829004268 : True := trivial
theorem full.tw18398020362020760440 : True := trivial
theorem full.tw2311659555344668074 : True := trivial
theorem full.tw9072561437146690402 : True := trivial
theorem full.tw14403649638648440790 : True := trivial
theorem full.tw398597092986529900 : True := trivial
theorem full.tw867479500152442623 : True := trivial
theorem full.tw3963479813436187099 : True := trivial
theorem full.tw11343849410264887345 : True := trivial
theorem full.tw15641508577858961930 : True := trivial
theorem full.tw17688629526809211790 : True := trivial
theorem full.tw15220913161327982178 : True := trivial
theorem full.tw18000089199079940667 : True := trivial
theorem full.tw661105218455598305 : True := trivial
theorem full.tw16855738798476364194 : True := trivial
theorem full.tw17341659322105601730 : True := trivial
theorem full.tw9166603564260734233 : True := trivial
theorem full.tw10969178609621672764 : True := trivial
theorem full.tw10176065992317995337 : True := trivial
theorem full.tw16343299292989808349 : True := trivial
theorem full.tw9683306749897131284 : True := trivial
theorem full.tw11313476013273395540 : True := trivial
theorem full.tw4892191247594080840 : True := trivial
theorem full.tw13251965095721640271 : True := trivial
theorem full.tw5957365257104054697 : True := trivial
theorem full.tw18319729491039739521 : True := trivial
theorem full.tw15061924286726874303 : True := trivial
theorem full.tw13562469610115624693 : True := trivial
theorem full.tw11204276666054605201 : True := trivial
theorem full.tw4762698730463106605 : True := trivial
theorem full.tw15493062184772385872 : True := trivial
theorem full.tw8838997638275687621 : True := trivial
theorem full.tw1050165620285150729 : True := trivial
theorem full.tw13511677375890366468 : True := trivial
theorem full.tw12697596403617020856 : True := trivial
theorem full.tw15690106184960032980 : True := trivial
theorem full.tw1240544587892835771 : True := trivial
theorem full.tw6118717043147430520 : True := trivial
theorem full.tw9653290947008587659 : True := trivial
theorem full.tw14646410296433661640 : True := trivial
theorem full.tw10869432461851674106 : True := trivial
theorem full.tw16205347668397115748 : True := trivial
theorem full.tw9254438948299702855 : True := trivial
theorem full.tw3019874996744385527 : True := trivial
theorem full.tw12208202903734242416 : True := trivial
theorem full.tw4044740327477318330 : True := trivial
theorem full.tw3339634502620544786 : True := trivial
theorem full.tw10612588733063603657 : True := trivial
theorem full.tw17703782300220347972 : True := trivial
theorem full.tw14885632909798601022 : True := trivial
theorem full.tw13179644671268689715 : True := trivial
theorem full.tw17836098557784547886 : True := trivial
theorem full.tw5656500522282199074 : True := trivial
theorem full.tw12878077976065309542 : True := trivial
theorem full.tw10091948180386365287 : True := trivial
theorem full.tw7711977273581211785 : True := trivial
theorem full.tw17922850517127921537 : True := trivial

set_option Elab.async true
set_option maxHeartbeats 0 in
theorem full : PySem.Challenge.rw_tl0048_02.Holds := by
  w_on; o_law
  o_head (kHook Mine.KK Mine.KA (fun _ => by kernel_rfl))
  (case hw => w_witness2)
  k_go0
  (all_goals try k_fold)
  rename (List Int) => ns
  (rename CellsAre _ _ _ => x0); clear x0
  (rename (Obj.data _ = Data.cell (bindC _ _ _ _)) => e1); (have d4 : Obj.data _ = Data.cell none := e1); clear e1
  (rename (Obj.data _ = Data.cell (bindC _ _ _ _)) => e1); (have d3 : Obj.data _ = Data.cell none := e1); clear e1
  (rename (Obj.data _ = Data.cell (bindC _ _ _ _)) => e1); (have d2 : Obj.data _ = Data.cell none := e1); clear e1
  (rename (Obj.data _ = Data.cell (bindC _ _ _ _)) => e1); (have d1 : Obj.data _ = Data.cell none := e1); clear e1
  (rename Fr _ _ _ _ => F0); (have F1 : Fr _ _ _ (fun y => if y = Str.ofString "script" then some (.ref _) else none) := F0); clear F0

  have hlen9 : ns.length ≤ 63 := by omega
  (with_reducible refine' law2_in _ ?zLhM ?zLhenv ?zLhbody ?zLh1 ?zLh2 ?zLh3 ?zLh4 ?zLhB ?zLhF ?zLhX ?zLhT ?zLhN ?zLe4 ?zLe3 ?zLe2 ?zLe1 ?zLhl ?zLhi ?zLhlen ?zLhret)
  case zLhM => exact rfl
  case zLhenv => exact rfl
  case zLhbody => exact rfl
  case zLh1 => exact rfl
  case zLh2 => exact rfl
  case zLh3 => exact Nat.le_of_ble_eq_true rfl
  case zLh4 => exact Nat.le_of_ble_eq_true rfl
  case zLhF => exact F1
  case zLhB => assumption
  case zLhX => assumption
  case zLhT => assumption
  case zLhN => assumption
  case zLe4 => exact d1
  case zLe3 => exact d2
  case zLe2 => exact d3
  case zLe1 => exact d4
  case zLhi => assumption
  case zLhl => assumption
  case zLhlen => exact hlen9
  intro h' tk' m' kF9
  k_end
  kc_close
end Mine
set_option Elab.async false
theorem PySem.Challenge.cw_tl0048_02_holds : PySem.Challenge.rw_tl0048_02.Holds := by
  exact Mine.full
