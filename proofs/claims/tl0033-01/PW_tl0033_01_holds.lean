import PyProof.Rows.All
import Wide.All
import OpenK.AllK
import Wide.FinOn
import PySem.Challenge.RW_tl0033_01
open PySem PySem.W PySem.Spec PySem.Calls PyProof.Rows
set_option Elab.async false
set_option linter.all false
set_option compiler.extract_closed false
set_option maxRecDepth 100000
set_option maxHeartbeats 8000000
namespace Mine
noncomputable def stAt (i : Nat) : Stmt := PySem.Challenge.pw_tl0033_01.main.body.getD i (.Return none ⟨0, 0, 0, 0⟩)
def IsDef (st : Stmt) (p : Arguments) (b : List Stmt) (s : Scope) : Prop := ∃ n ds r ts tsc q ps, st = .FunctionDef n p b ds r ts s tsc q ps
noncomputable def hd.heap_39 : Params → Frag := by
  refine (?f : (p2 : Arguments) → (b2 : List Stmt) → (s2 : Scope) → IsDef (stAt 2) p2 b2 s2 → (p3 : Arguments) → (b3 : List Stmt) → (s3 : Scope) → IsDef (stAt 3) p3 b3 s3 → (p4 : Arguments) → (b4 : List Stmt) → (s4 : Scope) → IsDef (stAt 4) p4 b4 s4 → (p5 : Arguments) → (b5 : List Stmt) → (s5 : Scope) → IsDef (stAt 5) p5 b5 s5 → (p6 : Arguments) → (b6 : List Stmt) → (s6 : Scope) → IsDef (stAt 6) p6 b6 s6 → (p7 : Arguments) → (b7 : List Stmt) → (s7 : Scope) → IsDef (stAt 7) p7 b7 s7 → (p9 : Arguments) → (b9 : List Stmt) → (s9 : Scope) → IsDef (stAt 9) p9 b9 s9 → (p10 : Arguments) → (b10 : List Stmt) → (s10 : Scope) → IsDef (stAt 10) p10 b10 s10 → (p11 : Arguments) → (b11 : List Stmt) → (s11 : Scope) → IsDef (stAt 11) p11 b11 s11 → (p12 : Arguments) → (b12 : List Stmt) → (s12 : Scope) → IsDef (stAt 12) p12 b12 s12 → (p14 : Arguments) → (b14 : List Stmt) → (s14 : Scope) → IsDef (stAt 14) p14 b14 s14 → (p15 : Arguments) → (b15 : List Stmt) → (s15 : Scope) → IsDef (stAt 15) p15 b15 s15 → (p16 : Arguments) → (b16 : List Stmt) → (s16 : Scope) → IsDef (stAt 16) p16 b16 s16 → (p17 : Arguments) → (b17 : List Stmt) → (s17 : Scope) → IsDef (stAt 17) p17 b17 s17 → (p18 : Arguments) → (b18 : List Stmt) → (s18 : Scope) → IsDef (stAt 18) p18 b18 s18 → (p19 : Arguments) → (b19 : List Stmt) → (s19 : Scope) → IsDef (stAt 19) p19 b19 s19 → (p20 : Arguments) → (b20 : List Stmt) → (s20 : Scope) → IsDef (stAt 20) p20 b20 s20 → (p21 : Arguments) → (b21 : List Stmt) → (s21 : Scope) → IsDef (stAt 21) p21 b21 s21 → (p22 : Arguments) → (b22 : List Stmt) → (s22 : Scope) → IsDef (stAt 22) p22 b22 s22 → (p23 : Arguments) → (b23 : List Stmt) → (s23 : Scope) → IsDef (stAt 23) p23 b23 s23 → (p24 : Arguments) → (b24 : List Stmt) → (s24 : Scope) → IsDef (stAt 24) p24 b24 s24 → (p25 : Arguments) → (b25 : List Stmt) → (s25 : Scope) → IsDef (stAt 25) p25 b25 s25 → (p26 : Arguments) → (b26 : List Stmt) → (s26 : Scope) → IsDef (stAt 26) p26 b26 s26 → (p28 : Arguments) → (b28 : List Stmt) → (s28 : Scope) → IsDef (stAt 28) p28 b28 s28 → (p29 : Arguments) → (b29 : List Stmt) → (s29 : Scope) → IsDef (stAt 29) p29 b29 s29 → (p30 : Arguments) → (b30 : List Stmt) → (s30 : Scope) → IsDef (stAt 30) p30 b30 s30 → (p31 : Arguments) → (b31 : List Stmt) → (s31 : Scope) → IsDef (stAt 31) p31 b31 s31 → (p32 : Arguments) → (b32 : List Stmt) → (s32 : Scope) → IsDef (stAt 32) p32 b32 s32 → (p33 : Arguments) → (b33 : List Stmt) → (s33 : Scope) → IsDef (stAt 33) p33 b33 s33 → (p34 : Arguments) → (b34 : List Stmt) → (s34 : Scope) → IsDef (stAt 34) p34 b34 s34 → (p35 : Arguments) → (b35 : List Stmt) → (s35 : Scope) → IsDef (stAt 35) p35 b35 s35 → Params → Frag) _ _ _ ⟨_, _, _, _, _, _, _, rfl⟩ _ _ _ ⟨_, _, _, _, _, _, _, rfl⟩ _ _ _ ⟨_, _, _, _, _, _, _, rfl⟩ _ _ _ ⟨_, _, _, _, _, _, _, rfl⟩ _ _ _ ⟨_, _, _, _, _, _, _, rfl⟩ _ _ _ ⟨_, _, _, _, _, _, _, rfl⟩ _ _ _ ⟨_, _, _, _, _, _, _, rfl⟩ _ _ _ ⟨_, _, _, _, _, _, _, rfl⟩ _ _ _ ⟨_, _, _, _, _, _, _, rfl⟩ _ _ _ ⟨_, _, _, _, _, _, _, rfl⟩ _ _ _ ⟨_, _, _, _, _, _, _, rfl⟩ _ _ _ ⟨_, _, _, _, _, _, _, rfl⟩ _ _ _ ⟨_, _, _, _, _, _, _, rfl⟩ _ _ _ ⟨_, _, _, _, _, _, _, rfl⟩ _ _ _ ⟨_, _, _, _, _, _, _, rfl⟩ _ _ _ ⟨_, _, _, _, _, _, _, rfl⟩ _ _ _ ⟨_, _, _, _, _, _, _, rfl⟩ _ _ _ ⟨_, _, _, _, _, _, _, rfl⟩ _ _ _ ⟨_, _, _, _, _, _, _, rfl⟩ _ _ _ ⟨_, _, _, _, _, _, _, rfl⟩ _ _ _ ⟨_, _, _, _, _, _, _, rfl⟩ _ _ _ ⟨_, _, _, _, _, _, _, rfl⟩ _ _ _ ⟨_, _, _, _, _, _, _, rfl⟩ _ _ _ ⟨_, _, _, _, _, _, _, rfl⟩ _ _ _ ⟨_, _, _, _, _, _, _, rfl⟩ _ _ _ ⟨_, _, _, _, _, _, _, rfl⟩ _ _ _ ⟨_, _, _, _, _, _, _, rfl⟩ _ _ _ ⟨_, _, _, _, _, _, _, rfl⟩ _ _ _ ⟨_, _, _, _, _, _, _, rfl⟩ _ _ _ ⟨_, _, _, _, _, _, _, rfl⟩ _ _ _ ⟨_, _, _, _, _, _, _, rfl⟩
  case f => exact fun p2 b2 s2 _ p3 b3 s3 _ p4 b4 s4 _ p5 b5 s5 _ p6 b6 s6 _ p7 b7 s7 _ p9 b9 s9 _ p10 b10 s10 _ p11 b11 s11 _ p12 b12 s12 _ p14 b14 s14 _ p15 b15 s15 _ p16 b16 s16 _ p17 b17 s17 _ p18 b18 s18 _ p19 b19 s19 _ p20 b20 s20 _ p21 b21 s21 _ p22 b22 s22 _ p23 b23 s23 _ p24 b24 s24 _ p25 b25 s25 _ p26 b26 s26 _ p28 b28 s28 _ p29 b29 s29 _ p30 b30 s30 _ p31 b31 s31 _ p32 b32 s32 _ p33 b33 s33 _ p34 b34 s34 _ p35 b35 s35 _ P => (
    (nat_lit 2, (⟨.none, (@none Nat), .dict #[] (0 : Nat), #[]⟩ : Obj)) ::
    (nat_lit 3, (⟨.type "dict", (@none Nat), .dict (List.toArray ({ hash := PyData.keyHash P (Str.ofString "__name__"), key := .str (Str.ofString "__name__") (165 : Nat), val := .str (Str.ofString "law_tl0033_01") (432 : Nat) } :: { hash := PyData.keyHash P (Str.ofString "__doc__"), key := .str (Str.ofString "__doc__") (166 : Nat), val := .none } :: { hash := PyData.keyHash P (Str.ofString "__package__"), key := .str (Str.ofString "__package__") (167 : Nat), val := .none } :: { hash := PyData.keyHash P (Str.ofString "__loader__"), key := .str (Str.ofString "__loader__") (168 : Nat), val := .builtin "__main__.__loader__#opaque" } :: { hash := PyData.keyHash P (Str.ofString "__spec__"), key := .str (Str.ofString "__spec__") (169 : Nat), val := .none } :: { hash := PyData.keyHash P (Str.ofString "__annotations__"), key := .str (Str.ofString "__annotations__") (170 : Nat), val := .ref (6 : Nat) } :: { hash := PyData.keyHash P (Str.ofString "__builtins__"), key := .str (Str.ofString "__builtins__") (171 : Nat), val := .ref (4 : Nat) } :: { hash := PyData.keyHash P (Str.ofString "__file__"), key := .str (Str.ofString "__file__") (173 : Nat), val := .str (Str.ofString "/claim/cut.py") (172 : Nat) } :: { hash := PyData.keyHash P (Str.ofString "__cached__"), key := .str (Str.ofString "__cached__") (174 : Nat), val := .none } :: { hash := PyData.keyHash P (Str.ofString "_DIV_LIMIT"), key := .str (Str.ofString "_DIV_LIMIT") (190 : Nat), val := .int 4000 (189 : Nat) } :: { hash := PyData.keyHash P (Str.ofString "_div2n1n"), key := .str (Str.ofString "_div2n1n") (207 : Nat), val := .ref (21 : Nat) } :: { hash := PyData.keyHash P (Str.ofString "_div3n2n"), key := .str (Str.ofString "_div3n2n") (221 : Nat), val := .ref (28 : Nat) } :: { hash := PyData.keyHash P (Str.ofString "_int2digits"), key := .str (Str.ofString "_int2digits") (232 : Nat), val := .ref (35 : Nat) } :: { hash := PyData.keyHash P (Str.ofString "_digits2int"), key := .str (Str.ofString "_digits2int") (243 : Nat), val := .ref (42 : Nat) } :: { hash := PyData.keyHash P (Str.ofString "_divmod_pos"), key := .str (Str.ofString "_divmod_pos") (258 : Nat), val := .ref (49 : Nat) } :: { hash := PyData.keyHash P (Str.ofString "int_divmod"), key := .str (Str.ofString "int_divmod") (268 : Nat), val := .ref (56 : Nat) } :: { hash := PyData.keyHash P (Str.ofString "insort_right"), key := .str (Str.ofString "insort_right") (283 : Nat), val := .ref (65 : Nat) } :: { hash := PyData.keyHash P (Str.ofString "bisect_right"), key := .str (Str.ofString "bisect_right") (297 : Nat), val := .ref (74 : Nat) } :: { hash := PyData.keyHash P (Str.ofString "insort_left"), key := .str (Str.ofString "insort_left") (310 : Nat), val := .ref (83 : Nat) } :: { hash := PyData.keyHash P (Str.ofString "bisect_left"), key := .str (Str.ofString "bisect_left") (324 : Nat), val := .ref (92 : Nat) } :: { hash := PyData.keyHash P (Str.ofString "add"), key := .str (Str.ofString "add") (334 : Nat), val := .ref (99 : Nat) } :: { hash := PyData.keyHash P (Str.ofString "and_"), key := .str (Str.ofString "and_") (342 : Nat), val := .ref (106 : Nat) } :: { hash := PyData.keyHash P (Str.ofString "floordiv"), key := .str (Str.ofString "floordiv") (350 : Nat), val := .ref (113 : Nat) } :: { hash := PyData.keyHash P (Str.ofString "lshift"), key := .str (Str.ofString "lshift") (358 : Nat), val := .ref (120 : Nat) } :: { hash := PyData.keyHash P (Str.ofString "mod"), key := .str (Str.ofString "mod") (366 : Nat), val := .ref (127 : Nat) } :: { hash := PyData.keyHash P (Str.ofString "mul"), key := .str (Str.ofString "mul") (374 : Nat), val := .ref (134 : Nat) } :: { hash := PyData.keyHash P (Str.ofString "neg"), key := .str (Str.ofString "neg") (381 : Nat), val := .ref (141 : Nat) } :: { hash := PyData.keyHash P (Str.ofString "or_"), key := .str (Str.ofString "or_") (389 : Nat), val := .ref (148 : Nat) } :: { hash := PyData.keyHash P (Str.ofString "rshift"), key := .str (Str.ofString "rshift") (397 : Nat), val := .ref (155 : Nat) } :: { hash := PyData.keyHash P (Str.ofString "sub"), key := .str (Str.ofString "sub") (405 : Nat), val := .ref (162 : Nat) } :: { hash := PyData.keyHash P (Str.ofString "xor"), key := .str (Str.ofString "xor") (413 : Nat), val := .ref (169 : Nat) } :: { hash := PyData.keyHash P (Str.ofString "countOf"), key := .str (Str.ofString "countOf") (423 : Nat), val := .ref (176 : Nat) } :: { hash := PyData.keyHash P (Str.ofString "getitem"), key := .str (Str.ofString "getitem") (431 : Nat), val := .ref (183 : Nat) } :: { hash := PyData.keyHash P (Str.ofString "_law_head"), key := .str (Str.ofString "_law_head") (440 : Nat), val := .ref (190 : Nat) } :: { hash := PyData.keyHash P (Str.ofString "_law_tail"), key := .str (Str.ofString "_law_tail") (447 : Nat), val := .ref (197 : Nat) } :: { hash := PyData.keyHash P (Str.ofString "_law_power"), key := .str (Str.ofString "_law_power") (455 : Nat), val := .ref (204 : Nat) } :: { hash := PyData.keyHash P (Str.ofString "_law_rings"), key := .str (Str.ofString "_law_rings") (467 : Nat), val := .ref (211 : Nat) } :: { hash := PyData.keyHash P (Str.ofString "_law_least"), key := .str (Str.ofString "_law_least") (478 : Nat), val := .ref (218 : Nat) } :: { hash := PyData.keyHash P (Str.ofString "_law_counts"), key := .str (Str.ofString "_law_counts") (488 : Nat), val := .ref (225 : Nat) } :: { hash := PyData.keyHash P (Str.ofString "_law_refused"), key := .str (Str.ofString "_law_refused") (495 : Nat), val := .ref (232 : Nat) } :: { hash := PyData.keyHash P (Str.ofString "law"), key := .str (Str.ofString "law") (501 : Nat), val := .ref (237 : Nat) } :: [])) (41 : Nat), #[]⟩ : Obj)) ::
    (nat_lit 15, (⟨.type "tuple", (@none Nat), .seq #[] (0 : Nat), #[]⟩ : Obj)) ::
    (nat_lit 17, (⟨.type "tuple", (@none Nat), .seq (List.toArray (.str (Str.ofString "a") (194 : Nat) :: .str (Str.ofString "b") (195 : Nat) :: .str (Str.ofString "n") (196 : Nat) :: .str (Str.ofString "pad") (197 : Nat) :: .str (Str.ofString "half_n") (198 : Nat) :: .str (Str.ofString "mask") (199 : Nat) :: .str (Str.ofString "b1") (200 : Nat) :: .str (Str.ofString "b2") (201 : Nat) :: .str (Str.ofString "q1") (202 : Nat) :: .str (Str.ofString "r") (203 : Nat) :: .str (Str.ofString "q2") (204 : Nat) :: [])) (0 : Nat), #[]⟩ : Obj)) ::
    (nat_lit 18, (⟨.type "tuple", (@none Nat), .seq #[] (0 : Nat), #[]⟩ : Obj)) ::
    (nat_lit 20, (⟨.type "code", (@none Nat), .fields (List.toArray (.str (Str.ofString "_div2n1n") (191 : Nat) :: .str (Str.ofString "_div2n1n") (192 : Nat) :: .str (Str.ofString "/claim/cut.py") (193 : Nat) :: .int 3 (0 : Nat) :: .int 3 (0 : Nat) :: .int 0 (0 : Nat) :: .int 0 (0 : Nat) :: .int 3 (0 : Nat) :: .ref (15 : Nat) :: .bool Bool.true :: .int 181 (0 : Nat) :: .ref (16 : Nat) :: .none :: .ref (17 : Nat) :: .ref (18 : Nat) :: .ref (19 : Nat) :: .int 205 (0 : Nat) :: .int 3 (0 : Nat) :: .str (Str.ofString "/claim/cut.py") (206 : Nat) :: [])), #[]⟩ : Obj)) ::
    (nat_lit 21, (⟨.type "function", (@none Nat), .func ⟨Str.ofString "_div2n1n", Str.ofString "_div2n1n", p2, .stmts b2, s2, (3 : Nat), [], .none, .none, .none, .str (Str.ofString "cpy313._pylong") (187 : Nat), (@none Nat), .ref (20 : Nat), .none, (0 : Nat)⟩, #[]⟩ : Obj)) ::
    (nat_lit 22, (⟨.type "tuple", (@none Nat), .seq #[] (0 : Nat), #[]⟩ : Obj)) ::
    (nat_lit 24, (⟨.type "tuple", (@none Nat), .seq (List.toArray (.str (Str.ofString "a12") (211 : Nat) :: .str (Str.ofString "a3") (212 : Nat) :: .str (Str.ofString "b") (213 : Nat) :: .str (Str.ofString "b1") (214 : Nat) :: .str (Str.ofString "b2") (215 : Nat) :: .str (Str.ofString "n") (216 : Nat) :: .str (Str.ofString "q") (217 : Nat) :: .str (Str.ofString "r") (218 : Nat) :: [])) (0 : Nat), #[]⟩ : Obj)) ::
    (nat_lit 25, (⟨.type "tuple", (@none Nat), .seq #[] (0 : Nat), #[]⟩ : Obj)) ::
    (nat_lit 27, (⟨.type "code", (@none Nat), .fields (List.toArray (.str (Str.ofString "_div3n2n") (208 : Nat) :: .str (Str.ofString "_div3n2n") (209 : Nat) :: .str (Str.ofString "/claim/cut.py") (210 : Nat) :: .int 19 (0 : Nat) :: .int 6 (0 : Nat) :: .int 0 (0 : Nat) :: .int 0 (0 : Nat) :: .int 3 (0 : Nat) :: .ref (22 : Nat) :: .bool Bool.true :: .int 181 (0 : Nat) :: .ref (23 : Nat) :: .none :: .ref (24 : Nat) :: .ref (25 : Nat) :: .ref (26 : Nat) :: .int 219 (0 : Nat) :: .int 19 (0 : Nat) :: .str (Str.ofString "/claim/cut.py") (220 : Nat) :: [])), #[]⟩ : Obj)) ::
    (nat_lit 28, (⟨.type "function", (@none Nat), .func ⟨Str.ofString "_div3n2n", Str.ofString "_div3n2n", p3, .stmts b3, s3, (3 : Nat), [], .none, .none, .none, .str (Str.ofString "cpy313._pylong") (187 : Nat), (@none Nat), .ref (27 : Nat), .none, (0 : Nat)⟩, #[]⟩ : Obj)) ::
    (nat_lit 29, (⟨.type "tuple", (@none Nat), .seq #[] (0 : Nat), #[]⟩ : Obj)) ::
    (nat_lit 31, (⟨.type "tuple", (@none Nat), .seq (List.toArray (.str (Str.ofString "a") (225 : Nat) :: .str (Str.ofString "n") (226 : Nat) :: [])) (0 : Nat), #[]⟩ : Obj)) ::
    (nat_lit 32, (⟨.type "tuple", (@none Nat), .seq (List.toArray (.str (Str.ofString "n") (227 : Nat) :: .str (Str.ofString "a_digits") (228 : Nat) :: .str (Str.ofString "inner") (229 : Nat) :: [])) (0 : Nat), #[]⟩ : Obj)) ::
    (nat_lit 34, (⟨.type "code", (@none Nat), .fields (List.toArray (.str (Str.ofString "_int2digits") (222 : Nat) :: .str (Str.ofString "_int2digits") (223 : Nat) :: .str (Str.ofString "/claim/cut.py") (224 : Nat) :: .int 29 (0 : Nat) :: .int 2 (0 : Nat) :: .int 0 (0 : Nat) :: .int 0 (0 : Nat) :: .int 3 (0 : Nat) :: .ref (29 : Nat) :: .bool Bool.true :: .int 181 (0 : Nat) :: .ref (30 : Nat) :: .none :: .ref (31 : Nat) :: .ref (32 : Nat) :: .ref (33 : Nat) :: .int 230 (0 : Nat) :: .int 29 (0 : Nat) :: .str (Str.ofString "/claim/cut.py") (231 : Nat) :: [])), #[]⟩ : Obj)) ::
    (nat_lit 35, (⟨.type "function", (@none Nat), .func ⟨Str.ofString "_int2digits", Str.ofString "_int2digits", p4, .stmts b4, s4, (3 : Nat), [], .none, .none, .none, .str (Str.ofString "cpy313._pylong") (187 : Nat), (@none Nat), .ref (34 : Nat), .none, (0 : Nat)⟩, #[]⟩ : Obj)) ::
    (nat_lit 36, (⟨.type "tuple", (@none Nat), .seq #[] (0 : Nat), #[]⟩ : Obj)) ::
    (nat_lit 38, (⟨.type "tuple", (@none Nat), .seq (List.toArray (.str (Str.ofString "digits") (236 : Nat) :: .str (Str.ofString "n") (237 : Nat) :: [])) (0 : Nat), #[]⟩ : Obj)) ::
    (nat_lit 39, (⟨.type "tuple", (@none Nat), .seq (List.toArray (.str (Str.ofString "digits") (238 : Nat) :: .str (Str.ofString "n") (239 : Nat) :: .str (Str.ofString "inner") (240 : Nat) :: [])) (0 : Nat), #[]⟩ : Obj)) ::
    (nat_lit 41, (⟨.type "code", (@none Nat), .fields (List.toArray (.str (Str.ofString "_digits2int") (233 : Nat) :: .str (Str.ofString "_digits2int") (234 : Nat) :: .str (Str.ofString "/claim/cut.py") (235 : Nat) :: .int 45 (0 : Nat) :: .int 2 (0 : Nat) :: .int 0 (0 : Nat) :: .int 0 (0 : Nat) :: .int 3 (0 : Nat) :: .ref (36 : Nat) :: .bool Bool.true :: .int 181 (0 : Nat) :: .ref (37 : Nat) :: .none :: .ref (38 : Nat) :: .ref (39 : Nat) :: .ref (40 : Nat) :: .int 241 (0 : Nat) :: .int 45 (0 : Nat) :: .str (Str.ofString "/claim/cut.py") (242 : Nat) :: [])), #[]⟩ : Obj)) ::
    (nat_lit 42, (⟨.type "function", (@none Nat), .func ⟨Str.ofString "_digits2int", Str.ofString "_digits2int", p5, .stmts b5, s5, (3 : Nat), [], .none, .none, .none, .str (Str.ofString "cpy313._pylong") (187 : Nat), (@none Nat), .ref (41 : Nat), .none, (0 : Nat)⟩, #[]⟩ : Obj)) ::
    (nat_lit 43, (⟨.type "tuple", (@none Nat), .seq #[] (0 : Nat), #[]⟩ : Obj)) ::
    (nat_lit 45, (⟨.type "tuple", (@none Nat), .seq (List.toArray (.str (Str.ofString "a") (247 : Nat) :: .str (Str.ofString "b") (248 : Nat) :: .str (Str.ofString "n") (249 : Nat) :: .str (Str.ofString "a_digits") (250 : Nat) :: .str (Str.ofString "r") (251 : Nat) :: .str (Str.ofString "q_digits") (252 : Nat) :: .str (Str.ofString "a_digit") (253 : Nat) :: .str (Str.ofString "q_digit") (254 : Nat) :: .str (Str.ofString "q") (255 : Nat) :: [])) (0 : Nat), #[]⟩ : Obj)) ::
    (nat_lit 46, (⟨.type "tuple", (@none Nat), .seq #[] (0 : Nat), #[]⟩ : Obj)) ::
    (nat_lit 48, (⟨.type "code", (@none Nat), .fields (List.toArray (.str (Str.ofString "_divmod_pos") (244 : Nat) :: .str (Str.ofString "_divmod_pos") (245 : Nat) :: .str (Str.ofString "/claim/cut.py") (246 : Nat) :: .int 54 (0 : Nat) :: .int 2 (0 : Nat) :: .int 0 (0 : Nat) :: .int 0 (0 : Nat) :: .int 3 (0 : Nat) :: .ref (43 : Nat) :: .bool Bool.true :: .int 181 (0 : Nat) :: .ref (44 : Nat) :: .none :: .ref (45 : Nat) :: .ref (46 : Nat) :: .ref (47 : Nat) :: .int 256 (0 : Nat) :: .int 54 (0 : Nat) :: .str (Str.ofString "/claim/cut.py") (257 : Nat) :: [])), #[]⟩ : Obj)) ::
    (nat_lit 49, (⟨.type "function", (@none Nat), .func ⟨Str.ofString "_divmod_pos", Str.ofString "_divmod_pos", p6, .stmts b6, s6, (3 : Nat), [], .none, .none, .none, .str (Str.ofString "cpy313._pylong") (187 : Nat), (@none Nat), .ref (48 : Nat), .none, (0 : Nat)⟩, #[]⟩ : Obj)) ::
    (nat_lit 50, (⟨.type "tuple", (@none Nat), .seq #[] (0 : Nat), #[]⟩ : Obj)) ::
    (nat_lit 52, (⟨.type "tuple", (@none Nat), .seq (List.toArray (.str (Str.ofString "a") (262 : Nat) :: .str (Str.ofString "b") (263 : Nat) :: .str (Str.ofString "q") (264 : Nat) :: .str (Str.ofString "r") (265 : Nat) :: [])) (0 : Nat), #[]⟩ : Obj)) ::
    (nat_lit 53, (⟨.type "tuple", (@none Nat), .seq #[] (0 : Nat), #[]⟩ : Obj)) ::
    (nat_lit 55, (⟨.type "code", (@none Nat), .fields (List.toArray (.str (Str.ofString "int_divmod") (259 : Nat) :: .str (Str.ofString "int_divmod") (260 : Nat) :: .str (Str.ofString "/claim/cut.py") (261 : Nat) :: .int 65 (0 : Nat) :: .int 2 (0 : Nat) :: .int 0 (0 : Nat) :: .int 0 (0 : Nat) :: .int 3 (0 : Nat) :: .ref (50 : Nat) :: .bool Bool.true :: .int 181 (0 : Nat) :: .ref (51 : Nat) :: .none :: .ref (52 : Nat) :: .ref (53 : Nat) :: .ref (54 : Nat) :: .int 266 (0 : Nat) :: .int 65 (0 : Nat) :: .str (Str.ofString "/claim/cut.py") (267 : Nat) :: [])), #[]⟩ : Obj)) ::
    (nat_lit 56, (⟨.type "function", (@none Nat), .func ⟨Str.ofString "int_divmod", Str.ofString "int_divmod", p7, .stmts b7, s7, (3 : Nat), [], .none, .none, .none, .str (Str.ofString "cpy313._pylong") (187 : Nat), (@none Nat), .ref (55 : Nat), .none, (0 : Nat)⟩, #[]⟩ : Obj)) ::
    (nat_lit 57, (⟨.type "tuple", (@none Nat), .seq (List.toArray (.int 0 (271 : Nat) :: .none :: [])) (0 : Nat), #[]⟩ : Obj)) ::
    (nat_lit 58, (⟨.type "dict", (@none Nat), .dict (List.toArray ({ hash := PyData.keyHash P (Str.ofString "key"), key := .str (Str.ofString "key") (272 : Nat), val := .none } :: [])) (1 : Nat), #[]⟩ : Obj)) ::
    (nat_lit 59, (⟨.type "tuple", (@none Nat), .seq #[] (0 : Nat), #[]⟩ : Obj)) ::
    (nat_lit 61, (⟨.type "tuple", (@none Nat), .seq (List.toArray (.str (Str.ofString "a") (276 : Nat) :: .str (Str.ofString "x") (277 : Nat) :: .str (Str.ofString "lo") (278 : Nat) :: .str (Str.ofString "hi") (279 : Nat) :: .str (Str.ofString "key") (280 : Nat) :: [])) (0 : Nat), #[]⟩ : Obj)) ::
    (nat_lit 62, (⟨.type "tuple", (@none Nat), .seq #[] (0 : Nat), #[]⟩ : Obj)) ::
    (nat_lit 64, (⟨.type "code", (@none Nat), .fields (List.toArray (.str (Str.ofString "insort_right") (273 : Nat) :: .str (Str.ofString "insort_right") (274 : Nat) :: .str (Str.ofString "/claim/cut.py") (275 : Nat) :: .int 77 (0 : Nat) :: .int 4 (0 : Nat) :: .int 0 (0 : Nat) :: .int 1 (0 : Nat) :: .int 3 (0 : Nat) :: .ref (59 : Nat) :: .bool Bool.true :: .int 181 (0 : Nat) :: .ref (60 : Nat) :: .none :: .ref (61 : Nat) :: .ref (62 : Nat) :: .ref (63 : Nat) :: .int 281 (0 : Nat) :: .int 77 (0 : Nat) :: .str (Str.ofString "/claim/cut.py") (282 : Nat) :: [])), #[]⟩ : Obj)) ::
    (nat_lit 65, (⟨.type "function", (@none Nat), .func ⟨Str.ofString "insort_right", Str.ofString "insort_right", p9, .stmts b9, s9, (3 : Nat), [], .ref (57 : Nat), .ref (58 : Nat), .none, .str (Str.ofString "cpy313.bisect") (269 : Nat), (@none Nat), .ref (64 : Nat), .none, (0 : Nat)⟩, #[]⟩ : Obj)) ::
    (nat_lit 66, (⟨.type "tuple", (@none Nat), .seq (List.toArray (.int 0 (284 : Nat) :: .none :: [])) (0 : Nat), #[]⟩ : Obj)) ::
    (nat_lit 67, (⟨.type "dict", (@none Nat), .dict (List.toArray ({ hash := PyData.keyHash P (Str.ofString "key"), key := .str (Str.ofString "key") (285 : Nat), val := .none } :: [])) (1 : Nat), #[]⟩ : Obj)) ::
    (nat_lit 68, (⟨.type "tuple", (@none Nat), .seq #[] (0 : Nat), #[]⟩ : Obj)) ::
    (nat_lit 70, (⟨.type "tuple", (@none Nat), .seq (List.toArray (.str (Str.ofString "a") (289 : Nat) :: .str (Str.ofString "x") (290 : Nat) :: .str (Str.ofString "lo") (291 : Nat) :: .str (Str.ofString "hi") (292 : Nat) :: .str (Str.ofString "key") (293 : Nat) :: .str (Str.ofString "mid") (294 : Nat) :: [])) (0 : Nat), #[]⟩ : Obj)) ::
    (nat_lit 71, (⟨.type "tuple", (@none Nat), .seq #[] (0 : Nat), #[]⟩ : Obj)) ::
    (nat_lit 73, (⟨.type "code", (@none Nat), .fields (List.toArray (.str (Str.ofString "bisect_right") (286 : Nat) :: .str (Str.ofString "bisect_right") (287 : Nat) :: .str (Str.ofString "/claim/cut.py") (288 : Nat) :: .int 83 (0 : Nat) :: .int 4 (0 : Nat) :: .int 0 (0 : Nat) :: .int 1 (0 : Nat) :: .int 3 (0 : Nat) :: .ref (68 : Nat) :: .bool Bool.true :: .int 181 (0 : Nat) :: .ref (69 : Nat) :: .none :: .ref (70 : Nat) :: .ref (71 : Nat) :: .ref (72 : Nat) :: .int 295 (0 : Nat) :: .int 83 (0 : Nat) :: .str (Str.ofString "/claim/cut.py") (296 : Nat) :: [])), #[]⟩ : Obj)) ::
    (nat_lit 74, (⟨.type "function", (@none Nat), .func ⟨Str.ofString "bisect_right", Str.ofString "bisect_right", p10, .stmts b10, s10, (3 : Nat), [], .ref (66 : Nat), .ref (67 : Nat), .none, .str (Str.ofString "cpy313.bisect") (269 : Nat), (@none Nat), .ref (73 : Nat), .none, (0 : Nat)⟩, #[]⟩ : Obj)) ::
    (nat_lit 75, (⟨.type "tuple", (@none Nat), .seq (List.toArray (.int 0 (298 : Nat) :: .none :: [])) (0 : Nat), #[]⟩ : Obj)) ::
    (nat_lit 76, (⟨.type "dict", (@none Nat), .dict (List.toArray ({ hash := PyData.keyHash P (Str.ofString "key"), key := .str (Str.ofString "key") (299 : Nat), val := .none } :: [])) (1 : Nat), #[]⟩ : Obj)) ::
    (nat_lit 77, (⟨.type "tuple", (@none Nat), .seq #[] (0 : Nat), #[]⟩ : Obj)) ::
    (nat_lit 79, (⟨.type "tuple", (@none Nat), .seq (List.toArray (.str (Str.ofString "a") (303 : Nat) :: .str (Str.ofString "x") (304 : Nat) :: .str (Str.ofString "lo") (305 : Nat) :: .str (Str.ofString "hi") (306 : Nat) :: .str (Str.ofString "key") (307 : Nat) :: [])) (0 : Nat), #[]⟩ : Obj)) ::
    (nat_lit 80, (⟨.type "tuple", (@none Nat), .seq #[] (0 : Nat), #[]⟩ : Obj)) ::
    (nat_lit 82, (⟨.type "code", (@none Nat), .fields (List.toArray (.str (Str.ofString "insort_left") (300 : Nat) :: .str (Str.ofString "insort_left") (301 : Nat) :: .str (Str.ofString "/claim/cut.py") (302 : Nat) :: .int 103 (0 : Nat) :: .int 4 (0 : Nat) :: .int 0 (0 : Nat) :: .int 1 (0 : Nat) :: .int 3 (0 : Nat) :: .ref (77 : Nat) :: .bool Bool.true :: .int 181 (0 : Nat) :: .ref (78 : Nat) :: .none :: .ref (79 : Nat) :: .ref (80 : Nat) :: .ref (81 : Nat) :: .int 308 (0 : Nat) :: .int 103 (0 : Nat) :: .str (Str.ofString "/claim/cut.py") (309 : Nat) :: [])), #[]⟩ : Obj)) ::
    (nat_lit 83, (⟨.type "function", (@none Nat), .func ⟨Str.ofString "insort_left", Str.ofString "insort_left", p11, .stmts b11, s11, (3 : Nat), [], .ref (75 : Nat), .ref (76 : Nat), .none, .str (Str.ofString "cpy313.bisect") (269 : Nat), (@none Nat), .ref (82 : Nat), .none, (0 : Nat)⟩, #[]⟩ : Obj)) ::
    (nat_lit 84, (⟨.type "tuple", (@none Nat), .seq (List.toArray (.int 0 (311 : Nat) :: .none :: [])) (0 : Nat), #[]⟩ : Obj)) ::
    (nat_lit 85, (⟨.type "dict", (@none Nat), .dict (List.toArray ({ hash := PyData.keyHash P (Str.ofString "key"), key := .str (Str.ofString "key") (312 : Nat), val := .none } :: [])) (1 : Nat), #[]⟩ : Obj)) ::
    (nat_lit 86, (⟨.type "tuple", (@none Nat), .seq #[] (0 : Nat), #[]⟩ : Obj)) ::
    (nat_lit 88, (⟨.type "tuple", (@none Nat), .seq (List.toArray (.str (Str.ofString "a") (316 : Nat) :: .str (Str.ofString "x") (317 : Nat) :: .str (Str.ofString "lo") (318 : Nat) :: .str (Str.ofString "hi") (319 : Nat) :: .str (Str.ofString "key") (320 : Nat) :: .str (Str.ofString "mid") (321 : Nat) :: [])) (0 : Nat), #[]⟩ : Obj)) ::
    (nat_lit 89, (⟨.type "tuple", (@none Nat), .seq #[] (0 : Nat), #[]⟩ : Obj)) ::
    (nat_lit 91, (⟨.type "code", (@none Nat), .fields (List.toArray (.str (Str.ofString "bisect_left") (313 : Nat) :: .str (Str.ofString "bisect_left") (314 : Nat) :: .str (Str.ofString "/claim/cut.py") (315 : Nat) :: .int 109 (0 : Nat) :: .int 4 (0 : Nat) :: .int 0 (0 : Nat) :: .int 1 (0 : Nat) :: .int 3 (0 : Nat) :: .ref (86 : Nat) :: .bool Bool.true :: .int 181 (0 : Nat) :: .ref (87 : Nat) :: .none :: .ref (88 : Nat) :: .ref (89 : Nat) :: .ref (90 : Nat) :: .int 322 (0 : Nat) :: .int 109 (0 : Nat) :: .str (Str.ofString "/claim/cut.py") (323 : Nat) :: [])), #[]⟩ : Obj)) ::
    (nat_lit 92, (⟨.type "function", (@none Nat), .func ⟨Str.ofString "bisect_left", Str.ofString "bisect_left", p12, .stmts b12, s12, (3 : Nat), [], .ref (84 : Nat), .ref (85 : Nat), .none, .str (Str.ofString "cpy313.bisect") (269 : Nat), (@none Nat), .ref (91 : Nat), .none, (0 : Nat)⟩, #[]⟩ : Obj)) ::
    (nat_lit 93, (⟨.type "tuple", (@none Nat), .seq #[] (0 : Nat), #[]⟩ : Obj)) ::
    (nat_lit 95, (⟨.type "tuple", (@none Nat), .seq (List.toArray (.str (Str.ofString "a") (330 : Nat) :: .str (Str.ofString "b") (331 : Nat) :: [])) (0 : Nat), #[]⟩ : Obj)) ::
    (nat_lit 96, (⟨.type "tuple", (@none Nat), .seq #[] (0 : Nat), #[]⟩ : Obj)) ::
    (nat_lit 98, (⟨.type "code", (@none Nat), .fields (List.toArray (.str (Str.ofString "add") (327 : Nat) :: .str (Str.ofString "add") (328 : Nat) :: .str (Str.ofString "/claim/cut.py") (329 : Nat) :: .int 130 (0 : Nat) :: .int 2 (0 : Nat) :: .int 0 (0 : Nat) :: .int 0 (0 : Nat) :: .int 3 (0 : Nat) :: .ref (93 : Nat) :: .bool Bool.true :: .int 181 (0 : Nat) :: .ref (94 : Nat) :: .none :: .ref (95 : Nat) :: .ref (96 : Nat) :: .ref (97 : Nat) :: .int 332 (0 : Nat) :: .int 130 (0 : Nat) :: .str (Str.ofString "/claim/cut.py") (333 : Nat) :: [])), #[]⟩ : Obj)) ::
    (nat_lit 99, (⟨.type "function", (@none Nat), .func ⟨Str.ofString "add", Str.ofString "add", p14, .stmts b14, s14, (3 : Nat), [], .none, .none, .none, .str (Str.ofString "cpy313.operator") (325 : Nat), (@none Nat), .ref (98 : Nat), .none, (0 : Nat)⟩, #[]⟩ : Obj)) ::
    (nat_lit 100, (⟨.type "tuple", (@none Nat), .seq #[] (0 : Nat), #[]⟩ : Obj)) ::
    (nat_lit 102, (⟨.type "tuple", (@none Nat), .seq (List.toArray (.str (Str.ofString "a") (338 : Nat) :: .str (Str.ofString "b") (339 : Nat) :: [])) (0 : Nat), #[]⟩ : Obj)) ::
    (nat_lit 103, (⟨.type "tuple", (@none Nat), .seq #[] (0 : Nat), #[]⟩ : Obj)) ::
    (nat_lit 105, (⟨.type "code", (@none Nat), .fields (List.toArray (.str (Str.ofString "and_") (335 : Nat) :: .str (Str.ofString "and_") (336 : Nat) :: .str (Str.ofString "/claim/cut.py") (337 : Nat) :: .int 132 (0 : Nat) :: .int 2 (0 : Nat) :: .int 0 (0 : Nat) :: .int 0 (0 : Nat) :: .int 3 (0 : Nat) :: .ref (100 : Nat) :: .bool Bool.true :: .int 181 (0 : Nat) :: .ref (101 : Nat) :: .none :: .ref (102 : Nat) :: .ref (103 : Nat) :: .ref (104 : Nat) :: .int 340 (0 : Nat) :: .int 132 (0 : Nat) :: .str (Str.ofString "/claim/cut.py") (341 : Nat) :: [])), #[]⟩ : Obj)) ::
    (nat_lit 106, (⟨.type "function", (@none Nat), .func ⟨Str.ofString "and_", Str.ofString "and_", p15, .stmts b15, s15, (3 : Nat), [], .none, .none, .none, .str (Str.ofString "cpy313.operator") (325 : Nat), (@none Nat), .ref (105 : Nat), .none, (0 : Nat)⟩, #[]⟩ : Obj)) ::
    (nat_lit 107, (⟨.type "tuple", (@none Nat), .seq #[] (0 : Nat), #[]⟩ : Obj)) ::
    (nat_lit 109, (⟨.type "tuple", (@none Nat), .seq (List.toArray (.str (Str.ofString "a") (346 : Nat) :: .str (Str.ofString "b") (347 : Nat) :: [])) (0 : Nat), #[]⟩ : Obj)) ::
    (nat_lit 110, (⟨.type "tuple", (@none Nat), .seq #[] (0 : Nat), #[]⟩ : Obj)) ::
    (nat_lit 112, (⟨.type "code", (@none Nat), .fields (List.toArray (.str (Str.ofString "floordiv") (343 : Nat) :: .str (Str.ofString "floordiv") (344 : Nat) :: .str (Str.ofString "/claim/cut.py") (345 : Nat) :: .int 134 (0 : Nat) :: .int 2 (0 : Nat) :: .int 0 (0 : Nat) :: .int 0 (0 : Nat) :: .int 3 (0 : Nat) :: .ref (107 : Nat) :: .bool Bool.true :: .int 181 (0 : Nat) :: .ref (108 : Nat) :: .none :: .ref (109 : Nat) :: .ref (110 : Nat) :: .ref (111 : Nat) :: .int 348 (0 : Nat) :: .int 134 (0 : Nat) :: .str (Str.ofString "/claim/cut.py") (349 : Nat) :: [])), #[]⟩ : Obj)) ::
    (nat_lit 113, (⟨.type "function", (@none Nat), .func ⟨Str.ofString "floordiv", Str.ofString "floordiv", p16, .stmts b16, s16, (3 : Nat), [], .none, .none, .none, .str (Str.ofString "cpy313.operator") (325 : Nat), (@none Nat), .ref (112 : Nat), .none, (0 : Nat)⟩, #[]⟩ : Obj)) ::
    (nat_lit 114, (⟨.type "tuple", (@none Nat), .seq #[] (0 : Nat), #[]⟩ : Obj)) ::
    (nat_lit 116, (⟨.type "tuple", (@none Nat), .seq (List.toArray (.str (Str.ofString "a") (354 : Nat) :: .str (Str.ofString "b") (355 : Nat) :: [])) (0 : Nat), #[]⟩ : Obj)) ::
    (nat_lit 117, (⟨.type "tuple", (@none Nat), .seq #[] (0 : Nat), #[]⟩ : Obj)) ::
    (nat_lit 119, (⟨.type "code", (@none Nat), .fields (List.toArray (.str (Str.ofString "lshift") (351 : Nat) :: .str (Str.ofString "lshift") (352 : Nat) :: .str (Str.ofString "/claim/cut.py") (353 : Nat) :: .int 136 (0 : Nat) :: .int 2 (0 : Nat) :: .int 0 (0 : Nat) :: .int 0 (0 : Nat) :: .int 3 (0 : Nat) :: .ref (114 : Nat) :: .bool Bool.true :: .int 181 (0 : Nat) :: .ref (115 : Nat) :: .none :: .ref (116 : Nat) :: .ref (117 : Nat) :: .ref (118 : Nat) :: .int 356 (0 : Nat) :: .int 136 (0 : Nat) :: .str (Str.ofString "/claim/cut.py") (357 : Nat) :: [])), #[]⟩ : Obj)) ::
    (nat_lit 120, (⟨.type "function", (@none Nat), .func ⟨Str.ofString "lshift", Str.ofString "lshift", p17, .stmts b17, s17, (3 : Nat), [], .none, .none, .none, .str (Str.ofString "cpy313.operator") (325 : Nat), (@none Nat), .ref (119 : Nat), .none, (0 : Nat)⟩, #[]⟩ : Obj)) ::
    (nat_lit 121, (⟨.type "tuple", (@none Nat), .seq #[] (0 : Nat), #[]⟩ : Obj)) ::
    (nat_lit 123, (⟨.type "tuple", (@none Nat), .seq (List.toArray (.str (Str.ofString "a") (362 : Nat) :: .str (Str.ofString "b") (363 : Nat) :: [])) (0 : Nat), #[]⟩ : Obj)) ::
    (nat_lit 124, (⟨.type "tuple", (@none Nat), .seq #[] (0 : Nat), #[]⟩ : Obj)) ::
    (nat_lit 126, (⟨.type "code", (@none Nat), .fields (List.toArray (.str (Str.ofString "mod") (359 : Nat) :: .str (Str.ofString "mod") (360 : Nat) :: .str (Str.ofString "/claim/cut.py") (361 : Nat) :: .int 138 (0 : Nat) :: .int 2 (0 : Nat) :: .int 0 (0 : Nat) :: .int 0 (0 : Nat) :: .int 3 (0 : Nat) :: .ref (121 : Nat) :: .bool Bool.true :: .int 181 (0 : Nat) :: .ref (122 : Nat) :: .none :: .ref (123 : Nat) :: .ref (124 : Nat) :: .ref (125 : Nat) :: .int 364 (0 : Nat) :: .int 138 (0 : Nat) :: .str (Str.ofString "/claim/cut.py") (365 : Nat) :: [])), #[]⟩ : Obj)) ::
    (nat_lit 127, (⟨.type "function", (@none Nat), .func ⟨Str.ofString "mod", Str.ofString "mod", p18, .stmts b18, s18, (3 : Nat), [], .none, .none, .none, .str (Str.ofString "cpy313.operator") (325 : Nat), (@none Nat), .ref (126 : Nat), .none, (0 : Nat)⟩, #[]⟩ : Obj)) ::
    (nat_lit 128, (⟨.type "tuple", (@none Nat), .seq #[] (0 : Nat), #[]⟩ : Obj)) ::
    (nat_lit 130, (⟨.type "tuple", (@none Nat), .seq (List.toArray (.str (Str.ofString "a") (370 : Nat) :: .str (Str.ofString "b") (371 : Nat) :: [])) (0 : Nat), #[]⟩ : Obj)) ::
    (nat_lit 131, (⟨.type "tuple", (@none Nat), .seq #[] (0 : Nat), #[]⟩ : Obj)) ::
    (nat_lit 133, (⟨.type "code", (@none Nat), .fields (List.toArray (.str (Str.ofString "mul") (367 : Nat) :: .str (Str.ofString "mul") (368 : Nat) :: .str (Str.ofString "/claim/cut.py") (369 : Nat) :: .int 140 (0 : Nat) :: .int 2 (0 : Nat) :: .int 0 (0 : Nat) :: .int 0 (0 : Nat) :: .int 3 (0 : Nat) :: .ref (128 : Nat) :: .bool Bool.true :: .int 181 (0 : Nat) :: .ref (129 : Nat) :: .none :: .ref (130 : Nat) :: .ref (131 : Nat) :: .ref (132 : Nat) :: .int 372 (0 : Nat) :: .int 140 (0 : Nat) :: .str (Str.ofString "/claim/cut.py") (373 : Nat) :: [])), #[]⟩ : Obj)) ::
    (nat_lit 134, (⟨.type "function", (@none Nat), .func ⟨Str.ofString "mul", Str.ofString "mul", p19, .stmts b19, s19, (3 : Nat), [], .none, .none, .none, .str (Str.ofString "cpy313.operator") (325 : Nat), (@none Nat), .ref (133 : Nat), .none, (0 : Nat)⟩, #[]⟩ : Obj)) ::
    (nat_lit 135, (⟨.type "tuple", (@none Nat), .seq #[] (0 : Nat), #[]⟩ : Obj)) ::
    (nat_lit 137, (⟨.type "tuple", (@none Nat), .seq (List.toArray (.str (Str.ofString "a") (378 : Nat) :: [])) (0 : Nat), #[]⟩ : Obj)) ::
    (nat_lit 138, (⟨.type "tuple", (@none Nat), .seq #[] (0 : Nat), #[]⟩ : Obj)) ::
    (nat_lit 140, (⟨.type "code", (@none Nat), .fields (List.toArray (.str (Str.ofString "neg") (375 : Nat) :: .str (Str.ofString "neg") (376 : Nat) :: .str (Str.ofString "/claim/cut.py") (377 : Nat) :: .int 142 (0 : Nat) :: .int 1 (0 : Nat) :: .int 0 (0 : Nat) :: .int 0 (0 : Nat) :: .int 3 (0 : Nat) :: .ref (135 : Nat) :: .bool Bool.true :: .int 181 (0 : Nat) :: .ref (136 : Nat) :: .none :: .ref (137 : Nat) :: .ref (138 : Nat) :: .ref (139 : Nat) :: .int 379 (0 : Nat) :: .int 142 (0 : Nat) :: .str (Str.ofString "/claim/cut.py") (380 : Nat) :: [])), #[]⟩ : Obj)) ::
    (nat_lit 141, (⟨.type "function", (@none Nat), .func ⟨Str.ofString "neg", Str.ofString "neg", p20, .stmts b20, s20, (3 : Nat), [], .none, .none, .none, .str (Str.ofString "cpy313.operator") (325 : Nat), (@none Nat), .ref (140 : Nat), .none, (0 : Nat)⟩, #[]⟩ : Obj)) ::
    (nat_lit 142, (⟨.type "tuple", (@none Nat), .seq #[] (0 : Nat), #[]⟩ : Obj)) ::
    (nat_lit 144, (⟨.type "tuple", (@none Nat), .seq (List.toArray (.str (Str.ofString "a") (385 : Nat) :: .str (Str.ofString "b") (386 : Nat) :: [])) (0 : Nat), #[]⟩ : Obj)) ::
    (nat_lit 145, (⟨.type "tuple", (@none Nat), .seq #[] (0 : Nat), #[]⟩ : Obj)) ::
    (nat_lit 147, (⟨.type "code", (@none Nat), .fields (List.toArray (.str (Str.ofString "or_") (382 : Nat) :: .str (Str.ofString "or_") (383 : Nat) :: .str (Str.ofString "/claim/cut.py") (384 : Nat) :: .int 144 (0 : Nat) :: .int 2 (0 : Nat) :: .int 0 (0 : Nat) :: .int 0 (0 : Nat) :: .int 3 (0 : Nat) :: .ref (142 : Nat) :: .bool Bool.true :: .int 181 (0 : Nat) :: .ref (143 : Nat) :: .none :: .ref (144 : Nat) :: .ref (145 : Nat) :: .ref (146 : Nat) :: .int 387 (0 : Nat) :: .int 144 (0 : Nat) :: .str (Str.ofString "/claim/cut.py") (388 : Nat) :: [])), #[]⟩ : Obj)) ::
    (nat_lit 148, (⟨.type "function", (@none Nat), .func ⟨Str.ofString "or_", Str.ofString "or_", p21, .stmts b21, s21, (3 : Nat), [], .none, .none, .none, .str (Str.ofString "cpy313.operator") (325 : Nat), (@none Nat), .ref (147 : Nat), .none, (0 : Nat)⟩, #[]⟩ : Obj)) ::
    (nat_lit 149, (⟨.type "tuple", (@none Nat), .seq #[] (0 : Nat), #[]⟩ : Obj)) ::
    (nat_lit 151, (⟨.type "tuple", (@none Nat), .seq (List.toArray (.str (Str.ofString "a") (393 : Nat) :: .str (Str.ofString "b") (394 : Nat) :: [])) (0 : Nat), #[]⟩ : Obj)) ::
    (nat_lit 152, (⟨.type "tuple", (@none Nat), .seq #[] (0 : Nat), #[]⟩ : Obj)) ::
    (nat_lit 154, (⟨.type "code", (@none Nat), .fields (List.toArray (.str (Str.ofString "rshift") (390 : Nat) :: .str (Str.ofString "rshift") (391 : Nat) :: .str (Str.ofString "/claim/cut.py") (392 : Nat) :: .int 146 (0 : Nat) :: .int 2 (0 : Nat) :: .int 0 (0 : Nat) :: .int 0 (0 : Nat) :: .int 3 (0 : Nat) :: .ref (149 : Nat) :: .bool Bool.true :: .int 181 (0 : Nat) :: .ref (150 : Nat) :: .none :: .ref (151 : Nat) :: .ref (152 : Nat) :: .ref (153 : Nat) :: .int 395 (0 : Nat) :: .int 146 (0 : Nat) :: .str (Str.ofString "/claim/cut.py") (396 : Nat) :: [])), #[]⟩ : Obj)) ::
    (nat_lit 155, (⟨.type "function", (@none Nat), .func ⟨Str.ofString "rshift", Str.ofString "rshift", p22, .stmts b22, s22, (3 : Nat), [], .none, .none, .none, .str (Str.ofString "cpy313.operator") (325 : Nat), (@none Nat), .ref (154 : Nat), .none, (0 : Nat)⟩, #[]⟩ : Obj)) ::
    (nat_lit 156, (⟨.type "tuple", (@none Nat), .seq #[] (0 : Nat), #[]⟩ : Obj)) ::
    (nat_lit 158, (⟨.type "tuple", (@none Nat), .seq (List.toArray (.str (Str.ofString "a") (401 : Nat) :: .str (Str.ofString "b") (402 : Nat) :: [])) (0 : Nat), #[]⟩ : Obj)) ::
    (nat_lit 159, (⟨.type "tuple", (@none Nat), .seq #[] (0 : Nat), #[]⟩ : Obj)) ::
    (nat_lit 161, (⟨.type "code", (@none Nat), .fields (List.toArray (.str (Str.ofString "sub") (398 : Nat) :: .str (Str.ofString "sub") (399 : Nat) :: .str (Str.ofString "/claim/cut.py") (400 : Nat) :: .int 148 (0 : Nat) :: .int 2 (0 : Nat) :: .int 0 (0 : Nat) :: .int 0 (0 : Nat) :: .int 3 (0 : Nat) :: .ref (156 : Nat) :: .bool Bool.true :: .int 181 (0 : Nat) :: .ref (157 : Nat) :: .none :: .ref (158 : Nat) :: .ref (159 : Nat) :: .ref (160 : Nat) :: .int 403 (0 : Nat) :: .int 148 (0 : Nat) :: .str (Str.ofString "/claim/cut.py") (404 : Nat) :: [])), #[]⟩ : Obj)) ::
    (nat_lit 162, (⟨.type "function", (@none Nat), .func ⟨Str.ofString "sub", Str.ofString "sub", p23, .stmts b23, s23, (3 : Nat), [], .none, .none, .none, .str (Str.ofString "cpy313.operator") (325 : Nat), (@none Nat), .ref (161 : Nat), .none, (0 : Nat)⟩, #[]⟩ : Obj)) ::
    (nat_lit 163, (⟨.type "tuple", (@none Nat), .seq #[] (0 : Nat), #[]⟩ : Obj)) ::
    (nat_lit 165, (⟨.type "tuple", (@none Nat), .seq (List.toArray (.str (Str.ofString "a") (409 : Nat) :: .str (Str.ofString "b") (410 : Nat) :: [])) (0 : Nat), #[]⟩ : Obj)) ::
    (nat_lit 166, (⟨.type "tuple", (@none Nat), .seq #[] (0 : Nat), #[]⟩ : Obj)) ::
    (nat_lit 168, (⟨.type "code", (@none Nat), .fields (List.toArray (.str (Str.ofString "xor") (406 : Nat) :: .str (Str.ofString "xor") (407 : Nat) :: .str (Str.ofString "/claim/cut.py") (408 : Nat) :: .int 150 (0 : Nat) :: .int 2 (0 : Nat) :: .int 0 (0 : Nat) :: .int 0 (0 : Nat) :: .int 3 (0 : Nat) :: .ref (163 : Nat) :: .bool Bool.true :: .int 181 (0 : Nat) :: .ref (164 : Nat) :: .none :: .ref (165 : Nat) :: .ref (166 : Nat) :: .ref (167 : Nat) :: .int 411 (0 : Nat) :: .int 150 (0 : Nat) :: .str (Str.ofString "/claim/cut.py") (412 : Nat) :: [])), #[]⟩ : Obj)) ::
    (nat_lit 169, (⟨.type "function", (@none Nat), .func ⟨Str.ofString "xor", Str.ofString "xor", p24, .stmts b24, s24, (3 : Nat), [], .none, .none, .none, .str (Str.ofString "cpy313.operator") (325 : Nat), (@none Nat), .ref (168 : Nat), .none, (0 : Nat)⟩, #[]⟩ : Obj)) ::
    (nat_lit 170, (⟨.type "tuple", (@none Nat), .seq #[] (0 : Nat), #[]⟩ : Obj)) ::
    (nat_lit 172, (⟨.type "tuple", (@none Nat), .seq (List.toArray (.str (Str.ofString "a") (417 : Nat) :: .str (Str.ofString "b") (418 : Nat) :: .str (Str.ofString "count") (419 : Nat) :: .str (Str.ofString "i") (420 : Nat) :: [])) (0 : Nat), #[]⟩ : Obj)) ::
    (nat_lit 173, (⟨.type "tuple", (@none Nat), .seq #[] (0 : Nat), #[]⟩ : Obj)) ::
    (nat_lit 175, (⟨.type "code", (@none Nat), .fields (List.toArray (.str (Str.ofString "countOf") (414 : Nat) :: .str (Str.ofString "countOf") (415 : Nat) :: .str (Str.ofString "/claim/cut.py") (416 : Nat) :: .int 152 (0 : Nat) :: .int 2 (0 : Nat) :: .int 0 (0 : Nat) :: .int 0 (0 : Nat) :: .int 3 (0 : Nat) :: .ref (170 : Nat) :: .bool Bool.true :: .int 181 (0 : Nat) :: .ref (171 : Nat) :: .none :: .ref (172 : Nat) :: .ref (173 : Nat) :: .ref (174 : Nat) :: .int 421 (0 : Nat) :: .int 152 (0 : Nat) :: .str (Str.ofString "/claim/cut.py") (422 : Nat) :: [])), #[]⟩ : Obj)) ::
    (nat_lit 176, (⟨.type "function", (@none Nat), .func ⟨Str.ofString "countOf", Str.ofString "countOf", p25, .stmts b25, s25, (3 : Nat), [], .none, .none, .none, .str (Str.ofString "cpy313.operator") (325 : Nat), (@none Nat), .ref (175 : Nat), .none, (0 : Nat)⟩, #[]⟩ : Obj)) ::
    (nat_lit 177, (⟨.type "tuple", (@none Nat), .seq #[] (0 : Nat), #[]⟩ : Obj)) ::
    (nat_lit 179, (⟨.type "tuple", (@none Nat), .seq (List.toArray (.str (Str.ofString "a") (427 : Nat) :: .str (Str.ofString "b") (428 : Nat) :: [])) (0 : Nat), #[]⟩ : Obj)) ::
    (nat_lit 180, (⟨.type "tuple", (@none Nat), .seq #[] (0 : Nat), #[]⟩ : Obj)) ::
    (nat_lit 182, (⟨.type "code", (@none Nat), .fields (List.toArray (.str (Str.ofString "getitem") (424 : Nat) :: .str (Str.ofString "getitem") (425 : Nat) :: .str (Str.ofString "/claim/cut.py") (426 : Nat) :: .int 158 (0 : Nat) :: .int 2 (0 : Nat) :: .int 0 (0 : Nat) :: .int 0 (0 : Nat) :: .int 3 (0 : Nat) :: .ref (177 : Nat) :: .bool Bool.true :: .int 181 (0 : Nat) :: .ref (178 : Nat) :: .none :: .ref (179 : Nat) :: .ref (180 : Nat) :: .ref (181 : Nat) :: .int 429 (0 : Nat) :: .int 158 (0 : Nat) :: .str (Str.ofString "/claim/cut.py") (430 : Nat) :: [])), #[]⟩ : Obj)) ::
    (nat_lit 183, (⟨.type "function", (@none Nat), .func ⟨Str.ofString "getitem", Str.ofString "getitem", p26, .stmts b26, s26, (3 : Nat), [], .none, .none, .none, .str (Str.ofString "cpy313.operator") (325 : Nat), (@none Nat), .ref (182 : Nat), .none, (0 : Nat)⟩, #[]⟩ : Obj)) ::
    (nat_lit 184, (⟨.type "tuple", (@none Nat), .seq #[] (0 : Nat), #[]⟩ : Obj)) ::
    (nat_lit 186, (⟨.type "tuple", (@none Nat), .seq (List.toArray (.str (Str.ofString "pair") (437 : Nat) :: [])) (0 : Nat), #[]⟩ : Obj)) ::
    (nat_lit 187, (⟨.type "tuple", (@none Nat), .seq #[] (0 : Nat), #[]⟩ : Obj)) ::
    (nat_lit 189, (⟨.type "code", (@none Nat), .fields (List.toArray (.str (Str.ofString "_law_head") (434 : Nat) :: .str (Str.ofString "_law_head") (435 : Nat) :: .str (Str.ofString "/claim/cut.py") (436 : Nat) :: .int 161 (0 : Nat) :: .int 1 (0 : Nat) :: .int 0 (0 : Nat) :: .int 0 (0 : Nat) :: .int 3 (0 : Nat) :: .ref (184 : Nat) :: .bool Bool.true :: .int 181 (0 : Nat) :: .ref (185 : Nat) :: .none :: .ref (186 : Nat) :: .ref (187 : Nat) :: .ref (188 : Nat) :: .int 438 (0 : Nat) :: .int 161 (0 : Nat) :: .str (Str.ofString "/claim/cut.py") (439 : Nat) :: [])), #[]⟩ : Obj)) ::
    (nat_lit 190, (⟨.type "function", (@none Nat), .func ⟨Str.ofString "_law_head", Str.ofString "_law_head", p28, .stmts b28, s28, (3 : Nat), [], .none, .none, .none, .str (Str.ofString "law_tl0033_01") (432 : Nat), (@none Nat), .ref (189 : Nat), .none, (0 : Nat)⟩, #[]⟩ : Obj)) ::
    (nat_lit 191, (⟨.type "tuple", (@none Nat), .seq #[] (0 : Nat), #[]⟩ : Obj)) ::
    (nat_lit 193, (⟨.type "tuple", (@none Nat), .seq (List.toArray (.str (Str.ofString "pair") (444 : Nat) :: [])) (0 : Nat), #[]⟩ : Obj)) ::
    (nat_lit 194, (⟨.type "tuple", (@none Nat), .seq #[] (0 : Nat), #[]⟩ : Obj)) ::
    (nat_lit 196, (⟨.type "code", (@none Nat), .fields (List.toArray (.str (Str.ofString "_law_tail") (441 : Nat) :: .str (Str.ofString "_law_tail") (442 : Nat) :: .str (Str.ofString "/claim/cut.py") (443 : Nat) :: .int 163 (0 : Nat) :: .int 1 (0 : Nat) :: .int 0 (0 : Nat) :: .int 0 (0 : Nat) :: .int 3 (0 : Nat) :: .ref (191 : Nat) :: .bool Bool.true :: .int 181 (0 : Nat) :: .ref (192 : Nat) :: .none :: .ref (193 : Nat) :: .ref (194 : Nat) :: .ref (195 : Nat) :: .int 445 (0 : Nat) :: .int 163 (0 : Nat) :: .str (Str.ofString "/claim/cut.py") (446 : Nat) :: [])), #[]⟩ : Obj)) ::
    (nat_lit 197, (⟨.type "function", (@none Nat), .func ⟨Str.ofString "_law_tail", Str.ofString "_law_tail", p29, .stmts b29, s29, (3 : Nat), [], .none, .none, .none, .str (Str.ofString "law_tl0033_01") (432 : Nat), (@none Nat), .ref (196 : Nat), .none, (0 : Nat)⟩, #[]⟩ : Obj)) ::
    (nat_lit 198, (⟨.type "tuple", (@none Nat), .seq #[] (0 : Nat), #[]⟩ : Obj)) ::
    (nat_lit 200, (⟨.type "tuple", (@none Nat), .seq (List.toArray (.str (Str.ofString "width") (451 : Nat) :: .str (Str.ofString "times") (452 : Nat) :: [])) (0 : Nat), #[]⟩ : Obj)) ::
    (nat_lit 201, (⟨.type "tuple", (@none Nat), .seq #[] (0 : Nat), #[]⟩ : Obj)) ::
    (nat_lit 203, (⟨.type "code", (@none Nat), .fields (List.toArray (.str (Str.ofString "_law_power") (448 : Nat) :: .str (Str.ofString "_law_power") (449 : Nat) :: .str (Str.ofString "/claim/cut.py") (450 : Nat) :: .int 165 (0 : Nat) :: .int 2 (0 : Nat) :: .int 0 (0 : Nat) :: .int 0 (0 : Nat) :: .int 3 (0 : Nat) :: .ref (198 : Nat) :: .bool Bool.true :: .int 181 (0 : Nat) :: .ref (199 : Nat) :: .none :: .ref (200 : Nat) :: .ref (201 : Nat) :: .ref (202 : Nat) :: .int 453 (0 : Nat) :: .int 165 (0 : Nat) :: .str (Str.ofString "/claim/cut.py") (454 : Nat) :: [])), #[]⟩ : Obj)) ::
    (nat_lit 204, (⟨.type "function", (@none Nat), .func ⟨Str.ofString "_law_power", Str.ofString "_law_power", p30, .stmts b30, s30, (3 : Nat), [], .none, .none, .none, .str (Str.ofString "law_tl0033_01") (432 : Nat), (@none Nat), .ref (203 : Nat), .none, (0 : Nat)⟩, #[]⟩ : Obj)) ::
    (nat_lit 205, (⟨.type "tuple", (@none Nat), .seq #[] (0 : Nat), #[]⟩ : Obj)) ::
    (nat_lit 207, (⟨.type "tuple", (@none Nat), .seq (List.toArray (.str (Str.ofString "beads") (459 : Nat) :: .str (Str.ofString "dark") (460 : Nat) :: .str (Str.ofString "rings") (461 : Nat) :: .str (Str.ofString "ring") (462 : Nat) :: .str (Str.ofString "low") (463 : Nat) :: .str (Str.ofString "high") (464 : Nat) :: [])) (0 : Nat), #[]⟩ : Obj)) ::
    (nat_lit 208, (⟨.type "tuple", (@none Nat), .seq #[] (0 : Nat), #[]⟩ : Obj)) ::
    (nat_lit 210, (⟨.type "code", (@none Nat), .fields (List.toArray (.str (Str.ofString "_law_rings") (456 : Nat) :: .str (Str.ofString "_law_rings") (457 : Nat) :: .str (Str.ofString "/claim/cut.py") (458 : Nat) :: .int 167 (0 : Nat) :: .int 2 (0 : Nat) :: .int 0 (0 : Nat) :: .int 0 (0 : Nat) :: .int 3 (0 : Nat) :: .ref (205 : Nat) :: .bool Bool.true :: .int 181 (0 : Nat) :: .ref (206 : Nat) :: .none :: .ref (207 : Nat) :: .ref (208 : Nat) :: .ref (209 : Nat) :: .int 465 (0 : Nat) :: .int 167 (0 : Nat) :: .str (Str.ofString "/claim/cut.py") (466 : Nat) :: [])), #[]⟩ : Obj)) ::
    (nat_lit 211, (⟨.type "function", (@none Nat), .func ⟨Str.ofString "_law_rings", Str.ofString "_law_rings", p31, .stmts b31, s31, (3 : Nat), [], .none, .none, .none, .str (Str.ofString "law_tl0033_01") (432 : Nat), (@none Nat), .ref (210 : Nat), .none, (0 : Nat)⟩, #[]⟩ : Obj)) ::
    (nat_lit 212, (⟨.type "tuple", (@none Nat), .seq #[] (0 : Nat), #[]⟩ : Obj)) ::
    (nat_lit 214, (⟨.type "tuple", (@none Nat), .seq (List.toArray (.str (Str.ofString "ring") (471 : Nat) :: .str (Str.ofString "beads") (472 : Nat) :: .str (Str.ofString "turned") (473 : Nat) :: .str (Str.ofString "least") (474 : Nat) :: .str (Str.ofString "turn") (475 : Nat) :: [])) (0 : Nat), #[]⟩ : Obj)) ::
    (nat_lit 215, (⟨.type "tuple", (@none Nat), .seq #[] (0 : Nat), #[]⟩ : Obj)) ::
    (nat_lit 217, (⟨.type "code", (@none Nat), .fields (List.toArray (.str (Str.ofString "_law_least") (468 : Nat) :: .str (Str.ofString "_law_least") (469 : Nat) :: .str (Str.ofString "/claim/cut.py") (470 : Nat) :: .int 176 (0 : Nat) :: .int 2 (0 : Nat) :: .int 0 (0 : Nat) :: .int 0 (0 : Nat) :: .int 3 (0 : Nat) :: .ref (212 : Nat) :: .bool Bool.true :: .int 181 (0 : Nat) :: .ref (213 : Nat) :: .none :: .ref (214 : Nat) :: .ref (215 : Nat) :: .ref (216 : Nat) :: .int 476 (0 : Nat) :: .int 176 (0 : Nat) :: .str (Str.ofString "/claim/cut.py") (477 : Nat) :: [])), #[]⟩ : Obj)) ::
    (nat_lit 218, (⟨.type "function", (@none Nat), .func ⟨Str.ofString "_law_least", Str.ofString "_law_least", p32, .stmts b32, s32, (3 : Nat), [], .none, .none, .none, .str (Str.ofString "law_tl0033_01") (432 : Nat), (@none Nat), .ref (217 : Nat), .none, (0 : Nat)⟩, #[]⟩ : Obj)) ::
    (nat_lit 219, (⟨.type "tuple", (@none Nat), .seq #[] (0 : Nat), #[]⟩ : Obj)) ::
    (nat_lit 221, (⟨.type "tuple", (@none Nat), .seq (List.toArray (.str (Str.ofString "leavings") (482 : Nat) :: .str (Str.ofString "beads") (483 : Nat) :: .str (Str.ofString "counts") (484 : Nat) :: .str (Str.ofString "each") (485 : Nat) :: [])) (0 : Nat), #[]⟩ : Obj)) ::
    (nat_lit 222, (⟨.type "tuple", (@none Nat), .seq #[] (0 : Nat), #[]⟩ : Obj)) ::
    (nat_lit 224, (⟨.type "code", (@none Nat), .fields (List.toArray (.str (Str.ofString "_law_counts") (479 : Nat) :: .str (Str.ofString "_law_counts") (480 : Nat) :: .str (Str.ofString "/claim/cut.py") (481 : Nat) :: .int 183 (0 : Nat) :: .int 2 (0 : Nat) :: .int 0 (0 : Nat) :: .int 0 (0 : Nat) :: .int 3 (0 : Nat) :: .ref (219 : Nat) :: .bool Bool.true :: .int 181 (0 : Nat) :: .ref (220 : Nat) :: .none :: .ref (221 : Nat) :: .ref (222 : Nat) :: .ref (223 : Nat) :: .int 486 (0 : Nat) :: .int 183 (0 : Nat) :: .str (Str.ofString "/claim/cut.py") (487 : Nat) :: [])), #[]⟩ : Obj)) ::
    (nat_lit 225, (⟨.type "function", (@none Nat), .func ⟨Str.ofString "_law_counts", Str.ofString "_law_counts", p33, .stmts b33, s33, (3 : Nat), [], .none, .none, .none, .str (Str.ofString "law_tl0033_01") (432 : Nat), (@none Nat), .ref (224 : Nat), .none, (0 : Nat)⟩, #[]⟩ : Obj)) ::
    (nat_lit 226, (⟨.type "tuple", (@none Nat), .seq #[] (0 : Nat), #[]⟩ : Obj)) ::
    (nat_lit 228, (⟨.type "tuple", (@none Nat), .seq (List.toArray (.str (Str.ofString "number") (492 : Nat) :: [])) (0 : Nat), #[]⟩ : Obj)) ::
    (nat_lit 229, (⟨.type "tuple", (@none Nat), .seq #[] (0 : Nat), #[]⟩ : Obj)) ::
    (nat_lit 231, (⟨.type "code", (@none Nat), .fields (List.toArray (.str (Str.ofString "_law_refused") (489 : Nat) :: .str (Str.ofString "_law_refused") (490 : Nat) :: .str (Str.ofString "/claim/cut.py") (491 : Nat) :: .int 188 (0 : Nat) :: .int 1 (0 : Nat) :: .int 0 (0 : Nat) :: .int 0 (0 : Nat) :: .int 3 (0 : Nat) :: .ref (226 : Nat) :: .bool Bool.true :: .int 181 (0 : Nat) :: .ref (227 : Nat) :: .none :: .ref (228 : Nat) :: .ref (229 : Nat) :: .ref (230 : Nat) :: .int 493 (0 : Nat) :: .int 188 (0 : Nat) :: .str (Str.ofString "/claim/cut.py") (494 : Nat) :: [])), #[]⟩ : Obj)) ::
    (nat_lit 232, (⟨.type "function", (@none Nat), .func ⟨Str.ofString "_law_refused", Str.ofString "_law_refused", p34, .stmts b34, s34, (3 : Nat), [], .none, .none, .none, .str (Str.ofString "law_tl0033_01") (432 : Nat), (@none Nat), .ref (231 : Nat), .none, (0 : Nat)⟩, #[]⟩ : Obj)) ::
    (nat_lit 233, (⟨.type "tuple", (@none Nat), .seq #[] (0 : Nat), #[]⟩ : Obj)) ::
    (nat_lit 236, (⟨.type "code", (@none Nat), .fields (List.toArray (.str (Str.ofString "law") (496 : Nat) :: .str (Str.ofString "law") (497 : Nat) :: .str (Str.ofString "/claim/cut.py") (498 : Nat) :: .int 194 (0 : Nat) :: .int 1 (0 : Nat) :: .int 0 (0 : Nat) :: .int 0 (0 : Nat) :: .int 3 (0 : Nat) :: .ref (233 : Nat) :: .bool Bool.true :: .int 181 (0 : Nat) :: .ref (234 : Nat) :: .none :: .none :: .none :: .ref (235 : Nat) :: .int 499 (0 : Nat) :: .int 194 (0 : Nat) :: .str (Str.ofString "/claim/cut.py") (500 : Nat) :: [])), #[]⟩ : Obj)) ::
    (nat_lit 237, (⟨.type "function", (@none Nat), .func ⟨Str.ofString "law", Str.ofString "law", p35, .stmts b35, s35, (3 : Nat), [], .none, .none, .none, .str (Str.ofString "law_tl0033_01") (432 : Nat), (@none Nat), .ref (236 : Nat), .none, (0 : Nat)⟩, #[]⟩ : Obj)) ::
    [] : List (Nat × Obj))
noncomputable def hd.o_277 : Params → Obj := by
  refine (?f : (p35 : Arguments) → (b35 : List Stmt) → (s35 : Scope) → IsDef (stAt 35) p35 b35 s35 → Params → Obj) _ _ _ ⟨_, _, _, _, _, _, _, rfl⟩
  case f => exact fun p35 b35 s35 _ P => ⟨.type "function", (@none Nat), .func ⟨Str.ofString "law", Str.ofString "law", p35, .stmts b35, s35, (3 : Nat), [], .none, .none, .none, .str (Str.ofString "law_tl0033_01") (432 : Nat), (@none Nat), .ref (236 : Nat), .none, (0 : Nat)⟩, #[]⟩
noncomputable def hd.view_39 : Program := by
  refine (?f : (t1 : Stmt) → stAt 1 = t1 → (t2 : Stmt) → stAt 2 = t2 → (t3 : Stmt) → stAt 3 = t3 → (t4 : Stmt) → stAt 4 = t4 → (t5 : Stmt) → stAt 5 = t5 → (t6 : Stmt) → stAt 6 = t6 → (t7 : Stmt) → stAt 7 = t7 → (t14 : Stmt) → stAt 14 = t14 → (t15 : Stmt) → stAt 15 = t15 → (t16 : Stmt) → stAt 16 = t16 → (t17 : Stmt) → stAt 17 = t17 → (t18 : Stmt) → stAt 18 = t18 → (t19 : Stmt) → stAt 19 = t19 → (t20 : Stmt) → stAt 20 = t20 → (t21 : Stmt) → stAt 21 = t21 → (t22 : Stmt) → stAt 22 = t22 → (t23 : Stmt) → stAt 23 = t23 → (t24 : Stmt) → stAt 24 = t24 → (t25 : Stmt) → stAt 25 = t25 → (t26 : Stmt) → stAt 26 = t26 → (t28 : Stmt) → stAt 28 = t28 → (t29 : Stmt) → stAt 29 = t29 → (t30 : Stmt) → stAt 30 = t30 → (t31 : Stmt) → stAt 31 = t31 → (t32 : Stmt) → stAt 32 = t32 → (t33 : Stmt) → stAt 33 = t33 → (t34 : Stmt) → stAt 34 = t34 → (t35 : Stmt) → stAt 35 = t35 → Program) _ (rfl : stAt 1 = .Assign _ _ _) _ (rfl : stAt 2 = .FunctionDef _ _ _ _ _ _ _ _ _ _) _ (rfl : stAt 3 = .FunctionDef _ _ _ _ _ _ _ _ _ _) _ (rfl : stAt 4 = .FunctionDef _ _ _ _ _ _ _ _ _ _) _ (rfl : stAt 5 = .FunctionDef _ _ _ _ _ _ _ _ _ _) _ (rfl : stAt 6 = .FunctionDef _ _ _ _ _ _ _ _ _ _) _ (rfl : stAt 7 = .FunctionDef _ _ _ _ _ _ _ _ _ _) _ (rfl : stAt 14 = .FunctionDef _ _ _ _ _ _ _ _ _ _) _ (rfl : stAt 15 = .FunctionDef _ _ _ _ _ _ _ _ _ _) _ (rfl : stAt 16 = .FunctionDef _ _ _ _ _ _ _ _ _ _) _ (rfl : stAt 17 = .FunctionDef _ _ _ _ _ _ _ _ _ _) _ (rfl : stAt 18 = .FunctionDef _ _ _ _ _ _ _ _ _ _) _ (rfl : stAt 19 = .FunctionDef _ _ _ _ _ _ _ _ _ _) _ (rfl : stAt 20 = .FunctionDef _ _ _ _ _ _ _ _ _ _) _ (rfl : stAt 21 = .FunctionDef _ _ _ _ _ _ _ _ _ _) _ (rfl : stAt 22 = .FunctionDef _ _ _ _ _ _ _ _ _ _) _ (rfl : stAt 23 = .FunctionDef _ _ _ _ _ _ _ _ _ _) _ (rfl : stAt 24 = .FunctionDef _ _ _ _ _ _ _ _ _ _) _ (rfl : stAt 25 = .FunctionDef _ _ _ _ _ _ _ _ _ _) _ (rfl : stAt 26 = .FunctionDef _ _ _ _ _ _ _ _ _ _) _ (rfl : stAt 28 = .FunctionDef _ _ _ _ _ _ _ _ _ _) _ (rfl : stAt 29 = .FunctionDef _ _ _ _ _ _ _ _ _ _) _ (rfl : stAt 30 = .FunctionDef _ _ _ _ _ _ _ _ _ _) _ (rfl : stAt 31 = .FunctionDef _ _ _ _ _ _ _ _ _ _) _ (rfl : stAt 32 = .FunctionDef _ _ _ _ _ _ _ _ _ _) _ (rfl : stAt 33 = .FunctionDef _ _ _ _ _ _ _ _ _ _) _ (rfl : stAt 34 = .FunctionDef _ _ _ _ _ _ _ _ _ _) _ (rfl : stAt 35 = .FunctionDef _ _ _ _ _ _ _ _ _ _)
  case f => exact fun t1 _ t2 _ t3 _ t4 _ t5 _ t6 _ t7 _ t14 _ t15 _ t16 _ t17 _ t18 _ t19 _ t20 _ t21 _ t22 _ t23 _ t24 _ t25 _ t26 _ t28 _ t29 _ t30 _ t31 _ t32 _ t33 _ t34 _ t35 _ => { PySem.Challenge.rw_tl0033_01.row.toRowW.prog with main := { PySem.Challenge.rw_tl0033_01.row.toRowW.prog.main with body := [t1, t2, t3, t4, t5, t6, t7, t14, t15, t16, t17, t18, t19, t20, t21, t22, t23, t24, t25, t26, t28, t29, t30, t31, t32, t33, t34, t35] } }
theorem hd.asOk (P : Params) : [nat_lit 2, nat_lit 3, nat_lit 15, nat_lit 17, nat_lit 18, nat_lit 20, nat_lit 21, nat_lit 22, nat_lit 24, nat_lit 25, nat_lit 27, nat_lit 28, nat_lit 29, nat_lit 31, nat_lit 32, nat_lit 34, nat_lit 35, nat_lit 36, nat_lit 38, nat_lit 39, nat_lit 41, nat_lit 42, nat_lit 43, nat_lit 45, nat_lit 46, nat_lit 48, nat_lit 49, nat_lit 50, nat_lit 52, nat_lit 53, nat_lit 55, nat_lit 56, nat_lit 57, nat_lit 58, nat_lit 59, nat_lit 61, nat_lit 62, nat_lit 64, nat_lit 65, nat_lit 66, nat_lit 67, nat_lit 68, nat_lit 70, nat_lit 71, nat_lit 73, nat_lit 74, nat_lit 75, nat_lit 76, nat_lit 77, nat_lit 79, nat_lit 80, nat_lit 82, nat_lit 83, nat_lit 84, nat_lit 85, nat_lit 86, nat_lit 88, nat_lit 89, nat_lit 91, nat_lit 92, nat_lit 93, nat_lit 95, nat_lit 96, nat_lit 98, nat_lit 99, nat_lit 100, nat_lit 102, nat_lit 103, nat_lit 105, nat_lit 106, nat_lit 107, nat_lit 109, nat_lit 110, nat_lit 112, nat_lit 113, nat_lit 114, nat_lit 116, nat_lit 117, nat_lit 119, nat_lit 120, nat_lit 121, nat_lit 123, nat_lit 124, nat_lit 126, nat_lit 127, nat_lit 128, nat_lit 130, nat_lit 131, nat_lit 133, nat_lit 134, nat_lit 135, nat_lit 137, nat_lit 138, nat_lit 140, nat_lit 141, nat_lit 142, nat_lit 144, nat_lit 145, nat_lit 147, nat_lit 148, nat_lit 149, nat_lit 151, nat_lit 152, nat_lit 154, nat_lit 155, nat_lit 156, nat_lit 158, nat_lit 159, nat_lit 161, nat_lit 162, nat_lit 163, nat_lit 165, nat_lit 166, nat_lit 168, nat_lit 169, nat_lit 170, nat_lit 172, nat_lit 173, nat_lit 175, nat_lit 176, nat_lit 177, nat_lit 179, nat_lit 180, nat_lit 182, nat_lit 183, nat_lit 184, nat_lit 186, nat_lit 187, nat_lit 189, nat_lit 190, nat_lit 191, nat_lit 193, nat_lit 194, nat_lit 196, nat_lit 197, nat_lit 198, nat_lit 200, nat_lit 201, nat_lit 203, nat_lit 204, nat_lit 205, nat_lit 207, nat_lit 208, nat_lit 210, nat_lit 211, nat_lit 212, nat_lit 214, nat_lit 215, nat_lit 217, nat_lit 218, nat_lit 219, nat_lit 221, nat_lit 222, nat_lit 224, nat_lit 225, nat_lit 226, nat_lit 228, nat_lit 229, nat_lit 231, nat_lit 232, nat_lit 233, nat_lit 236, nat_lit 237] = (hd.heap_39 P).map (·.1) := by kernel_rfl!
theorem hd.left : LeftO PySem.Challenge.rw_tl0033_01.row.toRowW.prog hd.view_39 [Str.ofString "insort_right", Str.ofString "bisect_right", Str.ofString "insort_left", Str.ofString "bisect_left"] (fun s => xlAt hd.view_39 [] s && recOk PySem.Challenge.rw_tl0033_01.row.toRowW.records s) (kmHook hd.heap_39 [nat_lit 2, nat_lit 3, nat_lit 15, nat_lit 17, nat_lit 18, nat_lit 20, nat_lit 21, nat_lit 22, nat_lit 24, nat_lit 25, nat_lit 27, nat_lit 28, nat_lit 29, nat_lit 31, nat_lit 32, nat_lit 34, nat_lit 35, nat_lit 36, nat_lit 38, nat_lit 39, nat_lit 41, nat_lit 42, nat_lit 43, nat_lit 45, nat_lit 46, nat_lit 48, nat_lit 49, nat_lit 50, nat_lit 52, nat_lit 53, nat_lit 55, nat_lit 56, nat_lit 57, nat_lit 58, nat_lit 59, nat_lit 61, nat_lit 62, nat_lit 64, nat_lit 65, nat_lit 66, nat_lit 67, nat_lit 68, nat_lit 70, nat_lit 71, nat_lit 73, nat_lit 74, nat_lit 75, nat_lit 76, nat_lit 77, nat_lit 79, nat_lit 80, nat_lit 82, nat_lit 83, nat_lit 84, nat_lit 85, nat_lit 86, nat_lit 88, nat_lit 89, nat_lit 91, nat_lit 92, nat_lit 93, nat_lit 95, nat_lit 96, nat_lit 98, nat_lit 99, nat_lit 100, nat_lit 102, nat_lit 103, nat_lit 105, nat_lit 106, nat_lit 107, nat_lit 109, nat_lit 110, nat_lit 112, nat_lit 113, nat_lit 114, nat_lit 116, nat_lit 117, nat_lit 119, nat_lit 120, nat_lit 121, nat_lit 123, nat_lit 124, nat_lit 126, nat_lit 127, nat_lit 128, nat_lit 130, nat_lit 131, nat_lit 133, nat_lit 134, nat_lit 135, nat_lit 137, nat_lit 138, nat_lit 140, nat_lit 141, nat_lit 142, nat_lit 144, nat_lit 145, nat_lit 147, nat_lit 148, nat_lit 149, nat_lit 151, nat_lit 152, nat_lit 154, nat_lit 155, nat_lit 156, nat_lit 158, nat_lit 159, nat_lit 161, nat_lit 162, nat_lit 163, nat_lit 165, nat_lit 166, nat_lit 168, nat_lit 169, nat_lit 170, nat_lit 172, nat_lit 173, nat_lit 175, nat_lit 176, nat_lit 177, nat_lit 179, nat_lit 180, nat_lit 182, nat_lit 183, nat_lit 184, nat_lit 186, nat_lit 187, nat_lit 189, nat_lit 190, nat_lit 191, nat_lit 193, nat_lit 194, nat_lit 196, nat_lit 197, nat_lit 198, nat_lit 200, nat_lit 201, nat_lit 203, nat_lit 204, nat_lit 205, nat_lit 207, nat_lit 208, nat_lit 210, nat_lit 211, nat_lit 212, nat_lit 214, nat_lit 215, nat_lit 217, nat_lit 218, nat_lit 219, nat_lit 221, nat_lit 222, nat_lit 224, nat_lit 225, nat_lit 226, nat_lit 228, nat_lit 229, nat_lit 231, nat_lit 232, nat_lit 233, nat_lit 236, nat_lit 237] hd.asOk [37, 30, 234]).obs (kmHook hd.heap_39 [nat_lit 2, nat_lit 3, nat_lit 15, nat_lit 17, nat_lit 18, nat_lit 20, nat_lit 21, nat_lit 22, nat_lit 24, nat_lit 25, nat_lit 27, nat_lit 28, nat_lit 29, nat_lit 31, nat_lit 32, nat_lit 34, nat_lit 35, nat_lit 36, nat_lit 38, nat_lit 39, nat_lit 41, nat_lit 42, nat_lit 43, nat_lit 45, nat_lit 46, nat_lit 48, nat_lit 49, nat_lit 50, nat_lit 52, nat_lit 53, nat_lit 55, nat_lit 56, nat_lit 57, nat_lit 58, nat_lit 59, nat_lit 61, nat_lit 62, nat_lit 64, nat_lit 65, nat_lit 66, nat_lit 67, nat_lit 68, nat_lit 70, nat_lit 71, nat_lit 73, nat_lit 74, nat_lit 75, nat_lit 76, nat_lit 77, nat_lit 79, nat_lit 80, nat_lit 82, nat_lit 83, nat_lit 84, nat_lit 85, nat_lit 86, nat_lit 88, nat_lit 89, nat_lit 91, nat_lit 92, nat_lit 93, nat_lit 95, nat_lit 96, nat_lit 98, nat_lit 99, nat_lit 100, nat_lit 102, nat_lit 103, nat_lit 105, nat_lit 106, nat_lit 107, nat_lit 109, nat_lit 110, nat_lit 112, nat_lit 113, nat_lit 114, nat_lit 116, nat_lit 117, nat_lit 119, nat_lit 120, nat_lit 121, nat_lit 123, nat_lit 124, nat_lit 126, nat_lit 127, nat_lit 128, nat_lit 130, nat_lit 131, nat_lit 133, nat_lit 134, nat_lit 135, nat_lit 137, nat_lit 138, nat_lit 140, nat_lit 141, nat_lit 142, nat_lit 144, nat_lit 145, nat_lit 147, nat_lit 148, nat_lit 149, nat_lit 151, nat_lit 152, nat_lit 154, nat_lit 155, nat_lit 156, nat_lit 158, nat_lit 159, nat_lit 161, nat_lit 162, nat_lit 163, nat_lit 165, nat_lit 166, nat_lit 168, nat_lit 169, nat_lit 170, nat_lit 172, nat_lit 173, nat_lit 175, nat_lit 176, nat_lit 177, nat_lit 179, nat_lit 180, nat_lit 182, nat_lit 183, nat_lit 184, nat_lit 186, nat_lit 187, nat_lit 189, nat_lit 190, nat_lit 191, nat_lit 193, nat_lit 194, nat_lit 196, nat_lit 197, nat_lit 198, nat_lit 200, nat_lit 201, nat_lit 203, nat_lit 204, nat_lit 205, nat_lit 207, nat_lit 208, nat_lit 210, nat_lit 211, nat_lit 212, nat_lit 214, nat_lit 215, nat_lit 217, nat_lit 218, nat_lit 219, nat_lit 221, nat_lit 222, nat_lit 224, nat_lit 225, nat_lit 226, nat_lit 228, nat_lit 229, nat_lit 231, nat_lit 232, nat_lit 233, nat_lit 236, nat_lit 237] hd.asOk [37, 30, 234]).val 2226 := by
  intro w
  kernel_rfl!
theorem hd.said : PySem.Challenge.rw_tl0033_01.wellSaid = true := by
  unfold OpenLaw.wellSaid OpenRow.wellSaid OpenRow.partSaid looksOpen
  repeat' (with_reducible refine look_both ?_ ?_)
  all_goals decide +kernel
theorem hd {d : DefRec} {kwd : List (Str × PySem.Expr)}
    (hdef : defOf hd.view_39 PySem.Challenge.rw_tl0033_01.row.toRowW.name = some (d, kwd)) (hp : PySem.Challenge.rw_tl0033_01.row.toRowW.prog.theDef PySem.Challenge.rw_tl0033_01.row.toRowW.name = some (d.params, d.body, d.scope)) (hk : kwWritten? d.params.kwonlyargs d.params.kw_defaults = some kwd)
    (walk : WalkO hd.view_39 [Str.ofString "insort_right", Str.ofString "bisect_right", Str.ofString "insort_left", Str.ofString "bisect_left"] (XL hd.view_39 []) (kmHook hd.heap_39 [nat_lit 2, nat_lit 3, nat_lit 15, nat_lit 17, nat_lit 18, nat_lit 20, nat_lit 21, nat_lit 22, nat_lit 24, nat_lit 25, nat_lit 27, nat_lit 28, nat_lit 29, nat_lit 31, nat_lit 32, nat_lit 34, nat_lit 35, nat_lit 36, nat_lit 38, nat_lit 39, nat_lit 41, nat_lit 42, nat_lit 43, nat_lit 45, nat_lit 46, nat_lit 48, nat_lit 49, nat_lit 50, nat_lit 52, nat_lit 53, nat_lit 55, nat_lit 56, nat_lit 57, nat_lit 58, nat_lit 59, nat_lit 61, nat_lit 62, nat_lit 64, nat_lit 65, nat_lit 66, nat_lit 67, nat_lit 68, nat_lit 70, nat_lit 71, nat_lit 73, nat_lit 74, nat_lit 75, nat_lit 76, nat_lit 77, nat_lit 79, nat_lit 80, nat_lit 82, nat_lit 83, nat_lit 84, nat_lit 85, nat_lit 86, nat_lit 88, nat_lit 89, nat_lit 91, nat_lit 92, nat_lit 93, nat_lit 95, nat_lit 96, nat_lit 98, nat_lit 99, nat_lit 100, nat_lit 102, nat_lit 103, nat_lit 105, nat_lit 106, nat_lit 107, nat_lit 109, nat_lit 110, nat_lit 112, nat_lit 113, nat_lit 114, nat_lit 116, nat_lit 117, nat_lit 119, nat_lit 120, nat_lit 121, nat_lit 123, nat_lit 124, nat_lit 126, nat_lit 127, nat_lit 128, nat_lit 130, nat_lit 131, nat_lit 133, nat_lit 134, nat_lit 135, nat_lit 137, nat_lit 138, nat_lit 140, nat_lit 141, nat_lit 142, nat_lit 144, nat_lit 145, nat_lit 147, nat_lit 148, nat_lit 149, nat_lit 151, nat_lit 152, nat_lit 154, nat_lit 155, nat_lit 156, nat_lit 158, nat_lit 159, nat_lit 161, nat_lit 162, nat_lit 163, nat_lit 165, nat_lit 166, nat_lit 168, nat_lit 169, nat_lit 170, nat_lit 172, nat_lit 173, nat_lit 175, nat_lit 176, nat_lit 177, nat_lit 179, nat_lit 180, nat_lit 182, nat_lit 183, nat_lit 184, nat_lit 186, nat_lit 187, nat_lit 189, nat_lit 190, nat_lit 191, nat_lit 193, nat_lit 194, nat_lit 196, nat_lit 197, nat_lit 198, nat_lit 200, nat_lit 201, nat_lit 203, nat_lit 204, nat_lit 205, nat_lit 207, nat_lit 208, nat_lit 210, nat_lit 211, nat_lit 212, nat_lit 214, nat_lit 215, nat_lit 217, nat_lit 218, nat_lit 219, nat_lit 221, nat_lit 222, nat_lit 224, nat_lit 225, nat_lit 226, nat_lit 228, nat_lit 229, nat_lit 231, nat_lit 232, nat_lit 233, nat_lit 236, nat_lit 237] hd.asOk [37, 30, 234]).says PySem.Challenge.rw_tl0033_01.row.toRowW d kwd fun f vs => PySem.call f vs) : PySem.Challenge.rw_tl0033_01.Holds := by
  refine holds_law hd.said fun said => ?_
  refine holds_open (N := 2226) hd.left (kmHook hd.heap_39 [nat_lit 2, nat_lit 3, nat_lit 15, nat_lit 17, nat_lit 18, nat_lit 20, nat_lit 21, nat_lit 22, nat_lit 24, nat_lit 25, nat_lit 27, nat_lit 28, nat_lit 29, nat_lit 31, nat_lit 32, nat_lit 34, nat_lit 35, nat_lit 36, nat_lit 38, nat_lit 39, nat_lit 41, nat_lit 42, nat_lit 43, nat_lit 45, nat_lit 46, nat_lit 48, nat_lit 49, nat_lit 50, nat_lit 52, nat_lit 53, nat_lit 55, nat_lit 56, nat_lit 57, nat_lit 58, nat_lit 59, nat_lit 61, nat_lit 62, nat_lit 64, nat_lit 65, nat_lit 66, nat_lit 67, nat_lit 68, nat_lit 70, nat_lit 71, nat_lit 73, nat_lit 74, nat_lit 75, nat_lit 76, nat_lit 77, nat_lit 79, nat_lit 80, nat_lit 82, nat_lit 83, nat_lit 84, nat_lit 85, nat_lit 86, nat_lit 88, nat_lit 89, nat_lit 91, nat_lit 92, nat_lit 93, nat_lit 95, nat_lit 96, nat_lit 98, nat_lit 99, nat_lit 100, nat_lit 102, nat_lit 103, nat_lit 105, nat_lit 106, nat_lit 107, nat_lit 109, nat_lit 110, nat_lit 112, nat_lit 113, nat_lit 114, nat_lit 116, nat_lit 117, nat_lit 119, nat_lit 120, nat_lit 121, nat_lit 123, nat_lit 124, nat_lit 126, nat_lit 127, nat_lit 128, nat_lit 130, nat_lit 131, nat_lit 133, nat_lit 134, nat_lit 135, nat_lit 137, nat_lit 138, nat_lit 140, nat_lit 141, nat_lit 142, nat_lit 144, nat_lit 145, nat_lit 147, nat_lit 148, nat_lit 149, nat_lit 151, nat_lit 152, nat_lit 154, nat_lit 155, nat_lit 156, nat_lit 158, nat_lit 159, nat_lit 161, nat_lit 162, nat_lit 163, nat_lit 165, nat_lit 166, nat_lit 168, nat_lit 169, nat_lit 170, nat_lit 172, nat_lit 173, nat_lit 175, nat_lit 176, nat_lit 177, nat_lit 179, nat_lit 180, nat_lit 182, nat_lit 183, nat_lit 184, nat_lit 186, nat_lit 187, nat_lit 189, nat_lit 190, nat_lit 191, nat_lit 193, nat_lit 194, nat_lit 196, nat_lit 197, nat_lit 198, nat_lit 200, nat_lit 201, nat_lit 203, nat_lit 204, nat_lit 205, nat_lit 207, nat_lit 208, nat_lit 210, nat_lit 211, nat_lit 212, nat_lit 214, nat_lit 215, nat_lit 217, nat_lit 218, nat_lit 219, nat_lit 221, nat_lit 222, nat_lit 224, nat_lit 225, nat_lit 226, nat_lit 228, nat_lit 229, nat_lit 231, nat_lit 232, nat_lit 233, nat_lit 236, nat_lit 237] hd.asOk [37, 30, 234]).of (kmHook hd.heap_39 [nat_lit 2, nat_lit 3, nat_lit 15, nat_lit 17, nat_lit 18, nat_lit 20, nat_lit 21, nat_lit 22, nat_lit 24, nat_lit 25, nat_lit 27, nat_lit 28, nat_lit 29, nat_lit 31, nat_lit 32, nat_lit 34, nat_lit 35, nat_lit 36, nat_lit 38, nat_lit 39, nat_lit 41, nat_lit 42, nat_lit 43, nat_lit 45, nat_lit 46, nat_lit 48, nat_lit 49, nat_lit 50, nat_lit 52, nat_lit 53, nat_lit 55, nat_lit 56, nat_lit 57, nat_lit 58, nat_lit 59, nat_lit 61, nat_lit 62, nat_lit 64, nat_lit 65, nat_lit 66, nat_lit 67, nat_lit 68, nat_lit 70, nat_lit 71, nat_lit 73, nat_lit 74, nat_lit 75, nat_lit 76, nat_lit 77, nat_lit 79, nat_lit 80, nat_lit 82, nat_lit 83, nat_lit 84, nat_lit 85, nat_lit 86, nat_lit 88, nat_lit 89, nat_lit 91, nat_lit 92, nat_lit 93, nat_lit 95, nat_lit 96, nat_lit 98, nat_lit 99, nat_lit 100, nat_lit 102, nat_lit 103, nat_lit 105, nat_lit 106, nat_lit 107, nat_lit 109, nat_lit 110, nat_lit 112, nat_lit 113, nat_lit 114, nat_lit 116, nat_lit 117, nat_lit 119, nat_lit 120, nat_lit 121, nat_lit 123, nat_lit 124, nat_lit 126, nat_lit 127, nat_lit 128, nat_lit 130, nat_lit 131, nat_lit 133, nat_lit 134, nat_lit 135, nat_lit 137, nat_lit 138, nat_lit 140, nat_lit 141, nat_lit 142, nat_lit 144, nat_lit 145, nat_lit 147, nat_lit 148, nat_lit 149, nat_lit 151, nat_lit 152, nat_lit 154, nat_lit 155, nat_lit 156, nat_lit 158, nat_lit 159, nat_lit 161, nat_lit 162, nat_lit 163, nat_lit 165, nat_lit 166, nat_lit 168, nat_lit 169, nat_lit 170, nat_lit 172, nat_lit 173, nat_lit 175, nat_lit 176, nat_lit 177, nat_lit 179, nat_lit 180, nat_lit 182, nat_lit 183, nat_lit 184, nat_lit 186, nat_lit 187, nat_lit 189, nat_lit 190, nat_lit 191, nat_lit 193, nat_lit 194, nat_lit 196, nat_lit 197, nat_lit 198, nat_lit 200, nat_lit 201, nat_lit 203, nat_lit 204, nat_lit 205, nat_lit 207, nat_lit 208, nat_lit 210, nat_lit 211, nat_lit 212, nat_lit 214, nat_lit 215, nat_lit 217, nat_lit 218, nat_lit 219, nat_lit 221, nat_lit 222, nat_lit 224, nat_lit 225, nat_lit 226, nat_lit 228, nat_lit 229, nat_lit 231, nat_lit 232, nat_lit 233, nat_lit 236, nat_lit 237] hd.asOk [37, 30, 234]).keeps (fun s e => xl_of s (Bool.and_eq_true_iff.mp e).1) XL.keeps hdef hp hk (fun s e => recFacts_of (Bool.and_eq_true_iff.mp e).2) (by rfl) said (by decide +kernel) ⟨rfl, rfl, rfl, rfl, rfl, by decide +kernel⟩ ?hw walk
  exact ⟨[WData.list []], by decide +kernel, by decide +kernel⟩
local macro_rules | `(tactic| omega) => `(tactic| ((k_extra "on:lia"); lia))
local macro_rules | `(tactic| walk_at $s:str) => `(tactic| k_extra $s)
-- LA
theorem again_LA : True := by w_top off; (try walk1); trivial
section
theorem lay_0 : True := by
  k_with "on:lia" => (fail_if_success (have z9 := off_lia))
  trivial
def Spec (w : World) (p : Program) (loose : List Str) (mean : ExcName → Option Value) (mg mb : Str → Option Value) (need : Nat) (news : List (Addr × Obj)) (f : Addr) (vs : List Value) (kw : List (Str × Value)) (Post : Value → List (Addr × Obj) → Prop) : Prop :=
  ∀ (dp un : Nat) (gd : Option (List Code)) (cn : Str) (cs : Scope) (a : Addr) (ccd : Value) (cl : List (Str × Addr)) (outer : List Env) (A₀ : Around) (base h₀ : Heap) (L : Addr) (m : Str → Option Value) (s : Shared) (Q E : Value → Shared → Prop),
    Below A₀ base outer h₀ → Fr h₀ L s.heap m → (hd.heap_39 w.params).In h₀ → News h₀ L s.heap news → Top p loose mean mg mb h₀ → cs.kind = .function → dp + need < recursionLimit → un + 8 * need < cLine →
    (∀ r news' h' tk', Fr h₀ L h' m → News h₀ L h' news' → Post r news' → Q r { s with heap := h', toks := tk' }) →
    wpAny (model PySem.Challenge.rw_tl0033_01.row.prog w) (ktrTop dp un gd cn cs L a ccd cl outer) (call (.ref f) vs kw) Q E s
def isI (x : Int) (news : List (Addr × Obj)) (r : Value) (nw : List (Addr × Obj)) : Prop := (∃ t, r = .int x t) ∧ nw = news
theorem ret_isI {h₀ h' : Heap} {L : Addr} {m : Str → Option Value} {news nw : List (Addr × Obj)} {s : Shared} {Q : Value → Shared → Prop} {x y : Int} {t : Tok} {tk' : Nat}
    (hret : ∀ r news' h' tk', Fr h₀ L h' m → News h₀ L h' news' → isI x news r news' → Q r { s with heap := h', toks := tk' }) (e : y = x) (F : Fr h₀ L h' m) (N : News h₀ L h' nw) (hs : ∀ p ∈ news, p ∈ nw) : Q (.int y t) { s with heap := h', toks := tk' } := by
  subst e
  exact hret _ _ h' tk' F (cb_drop N hs) ⟨⟨t, rfl⟩, rfl⟩
section
variable (w : World) (p : Program) (loose : List Str) (mean : ExcName → Option Value) (mg mb : Str → Option Value)
theorem lay_1 : True := by
  k_with "my:useE" => (intro _ _ _ _ _; (try dsimp only); (try k_fold))
  k_with "my:in" => (
      unfold Spec
      k_fill
      intro dp un gd cn cs a ccd cl outer A₀ base h₀ L m s Q E B F X N T hk hdp hun hret
      refine wpAny_call ?_
      k_dflt cell_enter)
  k_with "my:out" => ((fail_if_success (have z9 := off_LA)); (
      refine' ret_isI (by assumption) (by rfl) (by k_asm) (by k_asm) (by first | exact fun _ h => h | kcj_all)))
  k_with "binaryOp FloorDiv int int" => ((fail_if_success (have z9 := off_LA)); (refine floordiv_int (by assumption) ?_ (Or.inl (by assumption))))
  k_with "binaryOp LShift int int" => ((fail_if_success (have z9 := off_LA)); (refine lshift_int (by assumption) (by assumption) ?_))
  trivial
theorem spec_sub (news : List (Addr × Obj)) (x y : Int) (t u : Tok) : Spec w p loose mean mg mb 1 news 162 [.int x t, .int y u] [] (isI (x - y) news) := by
  walk_at "my:in"
  k_steps
  all_goals walk_at "my:out"
theorem spec_add (news : List (Addr × Obj)) (x y : Int) (t u : Tok) : Spec w p loose mean mg mb 1 news 99 [.int x t, .int y u] [] (isI (x + y) news) := by
  walk_at "my:in"
  k_steps
  all_goals walk_at "my:out"
theorem spec_and (news : List (Addr × Obj)) (x y : Int) (t u : Tok) : Spec w p loose mean mg mb 1 news 106 [.int x t, .int y u] [] (isI (Builtin.bitAnd x y) news) := by
  walk_at "my:in"
  k_steps
  all_goals walk_at "my:out"
theorem spec_floordiv (news : List (Addr × Obj)) (x y : Int) (t u : Tok) (hy : y ≠ 0) (hp : Builtin.divisionGoesByPylong x y = false) : Spec w p loose mean mg mb 1 news 113 [.int x t, .int y u] [] (isI (x.fdiv y) news) := by
  walk_at "my:in"
  k_steps
  all_goals walk_at "my:out"
theorem spec_lshift (news : List (Addr × Obj)) (x y : Int) (t u : Tok) (hy : 0 ≤ y) (hz : (Builtin.Int.intBits x : Int) + y ≤ 2 ^ 27) : Spec w p loose mean mg mb 1 news 120 [.int x t, .int y u] [] (isI (x * 2 ^ y.toNat) news) := by
  walk_at "my:in"
  k_steps
  all_goals walk_at "my:out"
theorem spec_mod (news : List (Addr × Obj)) (x y : Int) (t u : Tok) (hy : y ≠ 0) : Spec w p loose mean mg mb 1 news 127 [.int x t, .int y u] [] (isI (x.fmod y) news) := by
  walk_at "my:in"
  k_steps
  all_goals walk_at "my:out"
theorem spec_mul (news : List (Addr × Obj)) (x y : Int) (t u : Tok) (hm : IntMulOk x y) : Spec w p loose mean mg mb 1 news 134 [.int x t, .int y u] [] (isI (x * y) news) := by
  walk_at "my:in"
  k_steps
  all_goals walk_at "my:out"
theorem spec_neg (news : List (Addr × Obj)) (x : Int) (t : Tok) : Spec w p loose mean mg mb 1 news 141 [.int x t] [] (isI (-x) news) := by
  walk_at "my:in"
  k_steps
  all_goals walk_at "my:out"
theorem spec_or (news : List (Addr × Obj)) (x y : Int) (t u : Tok) : Spec w p loose mean mg mb 1 news 148 [.int x t, .int y u] [] (isI (Builtin.bitOr x y) news) := by
  walk_at "my:in"
  k_steps
  all_goals walk_at "my:out"
theorem spec_rshift (news : List (Addr × Obj)) (x y : Int) (t u : Tok) (hy : 0 ≤ y) : Spec w p loose mean mg mb 1 news 155 [.int x t, .int y u] [] (isI (x.fdiv (2 ^ y.toNat)) news) := by
  walk_at "my:in"
  k_steps
  all_goals walk_at "my:out"
theorem spec_xor (news : List (Addr × Obj)) (x y : Int) (t u : Tok) : Spec w p loose mean mg mb 1 news 169 [.int x t, .int y u] [] (isI (Builtin.bitXor x y) news) := by
  walk_at "my:in"
  k_steps
  all_goals walk_at "my:out"
end
end
theorem off_LA : True := trivial
-- LB
theorem again_LB : True := by w_top off; (try walk1); trivial
section
def Stop (P : Prop) : Prop := P
theorem stop_here {P : Prop} (h : Stop P) : P := h
theorem stop_ref (n : Addr) {M : Model} {A : Around} {vs : List Value} {kw : List (Str × Value)} {Q E : Value → Shared → Prop} {s : Shared} (h : Stop (wpAny M A (call (.ref n) vs kw) Q E s)) : wpAny M A (call (.ref n) vs kw) Q E s := h
theorem Stop.go {P : Prop} (h : P) : Stop P := h
theorem Spec.use {w : World} {p : Program} {loose : List Str} {mean : ExcName → Option Value} {mg mb : Str → Option Value} {need : Nat} {news : List (Addr × Obj)} {f : Addr} {vs : List Value} {kw : List (Str × Value)} {Post : Value → List (Addr × Obj) → Prop}
    {dp un : Nat} {gd : Option (List Code)} {cn : Str} {cs : Scope} {a : Addr} {ccd : Value} {cl : List (Str × Addr)} {outer : List Env} {A₀ : Around} {base h₀ : Heap} {L : Addr} {m : Str → Option Value} {s : Shared} {Q E : Value → Shared → Prop}
    (S : Spec w p loose mean mg mb need news f vs kw Post)
    (B : Below A₀ base outer h₀) (F : Fr h₀ L s.heap m) (X : (hd.heap_39 w.params).In h₀) (N : News h₀ L s.heap news) (T : Top p loose mean mg mb h₀) (hk : cs.kind = .function) (hd : dp + need < recursionLimit) (hu : un + 8 * need < cLine)
    (ret : ∀ r news' h' tk', Fr h₀ L h' m → News h₀ L h' news' → Post r news' → Q r { s with heap := h', toks := tk' }) :
    wpAny (model PySem.Challenge.rw_tl0033_01.row.prog w) (ktrTop dp un gd cn cs L a ccd cl outer) (call (.ref f) vs kw) Q E s := S _ _ _ _ _ _ _ _ _ _ _ _ _ _ _ _ _ B F X N T hk hd hu ret
theorem Spec.useI {w : World} {p : Program} {loose : List Str} {mean : ExcName → Option Value} {mg mb : Str → Option Value} {need : Nat} {news : List (Addr × Obj)} {f : Addr} {vs : List Value} {kw : List (Str × Value)} {x : Int}
    {dp un : Nat} {gd : Option (List Code)} {cn : Str} {cs : Scope} {a : Addr} {ccd : Value} {cl : List (Str × Addr)} {outer : List Env} {A₀ : Around} {base h₀ : Heap} {L : Addr} {m : Str → Option Value} {s : Shared} {Q E : Value → Shared → Prop}
    (S : Spec w p loose mean mg mb need news f vs kw (isI x news))
    (B : Below A₀ base outer h₀) (F : Fr h₀ L s.heap m) (X : (hd.heap_39 w.params).In h₀) (N : News h₀ L s.heap news) (T : Top p loose mean mg mb h₀) (hk : cs.kind = .function) (hd : dp + need < recursionLimit) (hu : un + 8 * need < cLine)
    (ret : ∀ t h' tk', Fr h₀ L h' m → News h₀ L h' news → Q (.int x t) { s with heap := h', toks := tk' }) :
    wpAny (model PySem.Challenge.rw_tl0033_01.row.prog w) (ktrTop dp un gd cn cs L a ccd cl outer) (call (.ref f) vs kw) Q E s :=
  S.use B F X N T hk hd hu fun r news' h' tk' F' N' P => by
    obtain ⟨⟨t, rfl⟩, rfl⟩ := P
    exact ret t h' tk' F' N'
section
variable (w : World) (p : Program) (loose : List Str) (mean : ExcName → Option Value) (mg mb : Str → Option Value)
theorem lay_2 : True := by
  k_with "my:out" => ((fail_if_success (have z9 := off_LB)); (
      refine' ret_isI (by assumption) (by rfl) (by k_asm) (by k_asm) (by first | exact fun _ h => h | kcj_all)))
  k_with "my:useI" => ((fail_if_success (have z9 := off_LB)); (
      (case k1 => k_asm); (case k2 => k_asm); (case k3 => k_asm); (case k4 => k_asm); (case k5 => k_asm)
      (case kK => first | exact rfl | assumption)
      (case kd => ktr_room)
      (case ku => ktr_units)
      intro _ _ _ _ _
      (try dsimp only)
      (try k_fold)))
  k_with "call ref" => (k_here; (with_reducible show wpAny _ _ (call (Value.ref 162) _ _) _ _ _); k_dflt (refine' Spec.useI (spec_sub _ _ _ _ _ _ _ _ _ _ _) (by k_asm) (by k_asm) (by k_asm) (by k_asm) (by k_asm) (by first | exact rfl | assumption) (by ktr_room) (by ktr_units) ?_); walk_at "my:useE")
  k_with "call ref" => ((fail_if_success (have z9 := off_LB)); (k_here; (with_reducible show wpAny _ _ (call (Value.ref 120) _ _) _ _ _); k_dflt (refine' Spec.useI (spec_lshift _ _ _ _ _ _ _ _ _ _ _ (by assumption) (by assumption)) (by k_asm) (by k_asm) (by k_asm) (by k_asm) (by k_asm) (by first | exact rfl | assumption) (by ktr_room) (by ktr_units) ?_); walk_at "my:useE"))
  trivial
theorem spec_power (news : List (Addr × Obj)) (x y : Int) (t u : Tok) (hm : IntMulOk x y) (h0 : 0 ≤ x * y) (hz : (Builtin.Int.intBits 1 : Int) + x * y ≤ 2 ^ 27) : Spec w p loose mean mg mb 2 news 204 [.int x t, .int y u] [] (isI (1 * 2 ^ (x * y).toNat - 1) news) := by
  walk_at "my:in"
  k_steps
  all_goals walk_at "my:out"
end
end
theorem off_LB : True := trivial
-- LP
theorem again_LP : True := by w_top off; (try walk1); trivial
section
def isL (R : List Int) (news : List (Addr × Obj)) (r : Value) (nw : List (Addr × Obj)) : Prop :=
  ∃ l vs n, r = .ref l ∧ IntsAre vs R ∧ nw = (l, W.listOf vs.toArray n) :: news ∧ ∀ q ∈ news, q.1 < l
theorem ret_isL {h₀ h' : Heap} {L l : Addr} {m : Str → Option Value} {news nw : List (Addr × Obj)} {s : Shared} {Q : Value → Shared → Prop} {R R' : List Int} {vs : List Value} {n : Nat} {tk' : Nat}
    (hret : ∀ r news' h' tk', Fr h₀ L h' m → News h₀ L h' news' → isL R news r news' → Q r { s with heap := h', toks := tk' }) (F : Fr h₀ L h' m) (N : News h₀ L h' nw) (hm : (l, W.listOf vs.toArray n) ∈ nw) (hs : ∀ p ∈ news, p ∈ nw)
    (hi : IntsAre vs R') (e : R' = R) (hl : ∀ q ∈ news, q.1 < l) : Q (.ref l) { s with heap := h', toks := tk' } := by
  subst e
  refine hret _ ((l, W.listOf vs.toArray n) :: news) h' tk' F (fun p hp => N p ?_) ⟨l, vs, n, rfl, hi, rfl, hl⟩
  rcases List.mem_cons.mp hp with rfl | hp
  · exact hm
  · exact hs p hp
abbrev tup2 (x y : Int) (t u : Tok) : Obj := { cls := .type "tuple", data := .seq #[.int x t, .int y u] }
def isT (x y : Int) (news : List (Addr × Obj)) (r : Value) (nw : List (Addr × Obj)) : Prop :=
  ∃ l t u, r = .ref l ∧ nw = (l, tup2 x y t u) :: news ∧ ∀ q ∈ news, q.1 < l
theorem ret_isT {h₀ h' : Heap} {L l : Addr} {m : Str → Option Value} {news nw : List (Addr × Obj)} {s : Shared} {Q : Value → Shared → Prop} {x y x' y' : Int} {t u : Tok} {tk' : Nat}
    (hret : ∀ r news' h' tk', Fr h₀ L h' m → News h₀ L h' news' → isT x y news r news' → Q r { s with heap := h', toks := tk' }) (F : Fr h₀ L h' m) (N : News h₀ L h' nw) (hm : (l, tup2 x' y' t u) ∈ nw) (hs : ∀ p ∈ news, p ∈ nw)
    (e1 : x' = x) (e2 : y' = y) (hl : ∀ q ∈ news, q.1 < l) : Q (.ref l) { s with heap := h', toks := tk' } := by
  subst e1 e2
  refine hret _ ((l, tup2 x' y' t u) :: news) h' tk' F (fun p hp => N p ?_) ⟨l, t, u, rfl, rfl, hl⟩
  rcases List.mem_cons.mp hp with rfl | hp
  · exact hm
  · exact hs p hp
def isN (news' : List (Addr × Obj)) (r : Value) (nw : List (Addr × Obj)) : Prop := r = .none ∧ nw = news'
theorem ret_isN {h₀ h' : Heap} {L : Addr} {m : Str → Option Value} {news' nw : List (Addr × Obj)} {s : Shared} {Q : Value → Shared → Prop} {tk' : Nat}
    (hret : ∀ r nw h' tk', Fr h₀ L h' m → News h₀ L h' nw → isN news' r nw → Q r { s with heap := h', toks := tk' }) (F : Fr h₀ L h' m) (N : News h₀ L h' nw) (hs : ∀ p ∈ news', p ∈ nw) : Q .none { s with heap := h', toks := tk' } :=
  hret _ news' h' tk' F (cb_drop N hs) ⟨rfl, rfl⟩
section
variable {w : World} {p : Program} {loose : List Str} {mean : ExcName → Option Value} {mg mb : Str → Option Value} {need : Nat} {news news' : List (Addr × Obj)} {f : Addr} {vs : List Value} {kw : List (Str × Value)}
    {dp un : Nat} {gd : Option (List Code)} {cn : Str} {cs : Scope} {a : Addr} {ccd : Value} {cl : List (Str × Addr)} {outer : List Env} {A₀ : Around} {base h₀ : Heap} {L : Addr} {m : Str → Option Value} {s : Shared} {Q E : Value → Shared → Prop}
theorem Spec.useL {R : List Int} (S : Spec w p loose mean mg mb need news f vs kw (isL R news))
    (B : Below A₀ base outer h₀) (F : Fr h₀ L s.heap m) (X : (hd.heap_39 w.params).In h₀) (N : News h₀ L s.heap news) (T : Top p loose mean mg mb h₀) (hk : cs.kind = .function) (hd : dp + need < recursionLimit) (hu : un + 8 * need < cLine)
    (ret : ∀ l us n h' tk', Fr h₀ L h' m → News h₀ L h' ((l, W.listOf us.toArray n) :: news) → IntsAre us R → (∀ q ∈ news, q.1 < l) → Q (.ref l) { s with heap := h', toks := tk' }) :
    wpAny (model PySem.Challenge.rw_tl0033_01.row.prog w) (ktrTop dp un gd cn cs L a ccd cl outer) (call (.ref f) vs kw) Q E s :=
  S.use B F X N T hk hd hu fun r nw h' tk' F' N' P => by
    obtain ⟨l, us, n, rfl, hi, rfl, hl⟩ := P
    exact ret l us n h' tk' F' N' hi hl
theorem Spec.useT {x y : Int} (S : Spec w p loose mean mg mb need news f vs kw (isT x y news))
    (B : Below A₀ base outer h₀) (F : Fr h₀ L s.heap m) (X : (hd.heap_39 w.params).In h₀) (N : News h₀ L s.heap news) (T : Top p loose mean mg mb h₀) (hk : cs.kind = .function) (hd : dp + need < recursionLimit) (hu : un + 8 * need < cLine)
    (ret : ∀ l t u h' tk', Fr h₀ L h' m → News h₀ L h' ((l, tup2 x y t u) :: news) → (∀ q ∈ news, q.1 < l) → Q (.ref l) { s with heap := h', toks := tk' }) :
    wpAny (model PySem.Challenge.rw_tl0033_01.row.prog w) (ktrTop dp un gd cn cs L a ccd cl outer) (call (.ref f) vs kw) Q E s :=
  S.use B F X N T hk hd hu fun r nw h' tk' F' N' P => by
    obtain ⟨l, t, u, rfl, rfl, hl⟩ := P
    exact ret l t u h' tk' F' N' hl
theorem Spec.useN (S : Spec w p loose mean mg mb need news f vs kw (isN news'))
    (B : Below A₀ base outer h₀) (F : Fr h₀ L s.heap m) (X : (hd.heap_39 w.params).In h₀) (N : News h₀ L s.heap news) (T : Top p loose mean mg mb h₀) (hk : cs.kind = .function) (hd : dp + need < recursionLimit) (hu : un + 8 * need < cLine)
    (ret : ∀ h' tk', Fr h₀ L h' m → News h₀ L h' news' → Q .none { s with heap := h', toks := tk' }) :
    wpAny (model PySem.Challenge.rw_tl0033_01.row.prog w) (ktrTop dp un gd cn cs L a ccd cl outer) (call (.ref f) vs kw) Q E s :=
  S.use B F X N T hk hd hu fun r nw h' tk' F' N' P => by
    obtain ⟨rfl, rfl⟩ := P
    exact ret h' tk' F' N'
end
theorem all_ne {d e : Addr} {l : List (Addr × Obj)} (h : AllLt d l) (hd : @LE.le Nat _ d e) : ∀ p ∈ l, p.1 ≠ e := fun p hp => Nat.ne_of_lt (Nat.lt_of_lt_of_le (ktn_ltOf h p hp) hd)
end
-- LSp
theorem again_LSp : True := by w_top off; (try walk1); trivial
section
theorem drink.{u} {α : Type u} (hα : Nonempty α) (P : α → Prop) : Nonempty {v : α // P v → ∀ x, P x} := by
  by_cases h : ∀ x, P x
  · exact hα.elim fun a => ⟨⟨a, fun _ => h⟩⟩
  · obtain ⟨a, ha⟩ := Classical.not_forall.mp h
    exact ⟨⟨a, fun hp => absurd hp ha⟩⟩
noncomputable def RunD (w : World) (p : Program) (loose : List Str) (mean : ExcName → Option Value) (mg mb : Str → Option Value) (need : Nat) (news : List (Addr × Obj)) (f : Addr) (Post : Value → List (Addr × Obj) → Prop) (qual : Str) (body : List Stmt) (scope : Scope) (cdv : Value) (binds : List (Str × Value))
    (dp un : Nat) (gd : Option (List Code)) (cn : Str) (cs : Scope) (a : Addr) (ccd : Value) (cl : List (Str × Addr)) (outer : List Env) (A₀ : Around) (base h₀ : Heap) (L : Addr) (m : Str → Option Value) (s : Shared) (Q E : Value → Shared → Prop) (g' : Heap) (L' : Addr) (h' : Heap) : Prop :=
  Below A₀ base outer h₀ → Fr h₀ L s.heap m → (hd.heap_39 w.params).In h₀ → News h₀ L s.heap news → Top p loose mean mg mb h₀ → cs.kind = .function → dp + need < recursionLimit → un + 8 * need < cLine →
  (∀ r news' h' tk', Fr h₀ L h' m → News h₀ L h' news' → Post r news' → Q r { s with heap := h', toks := tk' }) →
  Fr h₀ L g' m → Fr g' L' h' (fun y => binds.reverse.lookup y) → News g' L' h' news → Below (ktrTop dp un gd cn cs L a ccd cl outer) base (envX cn cs L a ccd cl :: outer) g' → (hd.heap_39 w.params).In g' → Top p loose mean mg mb g' →
  wpAny (model PySem.Challenge.rw_tl0033_01.row.prog w) ((ktrTop dp un gd cn cs L a ccd cl outer).deeper (envOf qual scope L' f cdv)) (execs body (envOf qual scope L' f cdv))
    (fun fl s' => LeaveK h₀ L m g' (fun r s' => match r with | .ok (.ret v) => Q v s' | .ok _ => False | .error e => E e s') (match fl with | .ret v => v | _ => .none) s')
    (fun e s' => wpAny (model PySem.Challenge.rw_tl0033_01.row.prog w) ((ktrTop dp un gd cn cs L a ccd cl outer).deeper (envOf qual scope L' f cdv)) (leaving (envOf qual scope L' f cdv) e) (fun _ s'' => E e s'') (fun e' s'' => E e' s'') s')
    { s with heap := h', toks := s.toks + binds.length }
theorem spec_body {w : World} {p : Program} {loose : List Str} {mean : ExcName → Option Value} {mg mb : Str → Option Value} {need : Nat} {news : List (Addr × Obj)} {f : Addr} {vs : List Value} {kw : List (Str × Value)} {Post : Value → List (Addr × Obj) → Prop}
    {name qual : Str} {params : Arguments} {body : List Stmt} {scope : Scope} {dV kV doc pm cdv ct oc : Value} {an od : Option Addr} {osl : Array (Option Value)} {binds : List (Str × Value)}
    (h : ∀ dp un gd cn cs a ccd cl outer A₀ base h₀ L m s Q E g' L' h', RunD w p loose mean mg mb need news f Post qual body scope cdv binds dp un gd cn cs a ccd cl outer A₀ base h₀ L m s Q E g' L' h')
    (ho : (hd.heap_39 w.params).lookup f = some ⟨oc, od, .func (fnOf name qual params body scope dV kV doc pm an cdv ct), osl⟩) (hcd : codeIn (hd.heap_39 w.params) cdv qual = true) (hneed : 1 ≤ need)
    (hbind : ∀ (s : Shared) (h₀ : Heap) (L : Addr) (m : Str → Option Value), Fr h₀ L s.heap m → (hd.heap_39 w.params).In h₀ → BindsTo s (fnOf name qual params body scope dV kV doc pm an cdv ct) ⟨vs, kw⟩ binds) (hloc : ∀ y ∈ binds, scope.names.lookup y.1 = some .local) (hco : scope.isCoroutine = false) (hgen : scope.isGenerator = false) (hk : scope.kind = .function)
    (hcell : ∀ x ∈ scope.names, x.2 ≠ .cell) :
    Spec w p loose mean mg mb need news f vs kw Post := by
  unfold Spec
  intro dp un gd cn cs a ccd cl outer A₀ base h₀ L m s Q E B F X N T hkk hdp hun hret
  refine wpAny_call ?_
  refine code_def B F X N T rfl rfl hkk ho hcd ?_ (hbind s h₀ L m F X) hloc ?_ hco hgen hk hcell
  · show dp < recursionLimit
    omega
  · intro g' L' h' FG' F' N' B' X' T'
    exact h dp un gd cn cs a ccd cl outer A₀ base h₀ L m s Q E g' L' h' B F X N T hkk hdp hun hret FG' F' N' B' X' T'
noncomputable def RunC (w : World) (p : Program) (loose : List Str) (mean : ExcName → Option Value) (mg mb : Str → Option Value) (need : Nat) (news : List (Addr × Obj)) (f : Addr) (Post : Value → List (Addr × Obj) → Prop) (qual : Str) (body : List Stmt) (scope : Scope) (cdv : Value) (binds : List (Str × Value))
    (dp un : Nat) (gd : Option (List Code)) (cn : Str) (cs : Scope) (a : Addr) (ccd : Value) (cl : List (Str × Addr)) (outer : List Env) (A₀ : Around) (base h₀ : Heap) (L : Addr) (m : Str → Option Value) (s : Shared) (Q E : Value → Shared → Prop) (g' : Heap) (L' : Addr) (h' : Heap) (tk' : Nat) : Prop :=
  ∀ cells', Below A₀ base outer h₀ → Fr h₀ L s.heap m → (hd.heap_39 w.params).In h₀ → News h₀ L s.heap news → Top p loose mean mg mb h₀ → cs.kind = .function → dp + need < recursionLimit → un + 8 * need < cLine →
  (∀ r news' h' tk', Fr h₀ L h' m → News h₀ L h' news' → Post r news' → Q r { s with heap := h', toks := tk' }) →
  Fr h₀ L g' m → Fr g' L' h' (bindL (envOfC qual scope L' f cdv).kindOf binds fun _ => none) → News g' L' h' (cells' ++ news) → CellsAre (bindC (envOfC qual scope L' f cdv).kindOf binds fun _ => none) (cellsFrom (L' + 1) scope.names []) cells' → Below (ktrTop dp un gd cn cs L a ccd cl outer) base (envX cn cs L a ccd cl :: outer) g' → (hd.heap_39 w.params).In g' → Top p loose mean mg mb g' → (∀ p ∈ news, p.1 < L') →
  wpAny (model PySem.Challenge.rw_tl0033_01.row.prog w) ((ktrTop dp un gd cn cs L a ccd cl outer).deeper (envOfC qual scope L' f cdv)) (execs body (envOfC qual scope L' f cdv))
    (fun fl s' => LeaveK h₀ L m g' (fun r s' => match r with | .ok (.ret v) => Q v s' | .ok _ => False | .error e => E e s') (match fl with | .ret v => v | _ => .none) s')
    (fun e s' => wpAny (model PySem.Challenge.rw_tl0033_01.row.prog w) ((ktrTop dp un gd cn cs L a ccd cl outer).deeper (envOfC qual scope L' f cdv)) (leaving (envOfC qual scope L' f cdv) e) (fun _ s'' => E e s'') (fun e' s'' => E e' s'') s')
    { s with heap := h', toks := tk' }
theorem spec_bodyC {w : World} {p : Program} {loose : List Str} {mean : ExcName → Option Value} {mg mb : Str → Option Value} {need : Nat} {news : List (Addr × Obj)} {f : Addr} {vs : List Value} {kw : List (Str × Value)} {Post : Value → List (Addr × Obj) → Prop}
    {name qual : Str} {params : Arguments} {body : List Stmt} {scope : Scope} {dV kV doc pm cdv ct oc : Value} {an od : Option Addr} {osl : Array (Option Value)} {binds : List (Str × Value)}
    (h : ∀ dp un gd cn cs a ccd cl outer A₀ base h₀ L m s Q E g' L' h' tk', RunC w p loose mean mg mb need news f Post qual body scope cdv binds dp un gd cn cs a ccd cl outer A₀ base h₀ L m s Q E g' L' h' tk')
    (ho : (hd.heap_39 w.params).lookup f = some ⟨oc, od, .func (fnOf name qual params body scope dV kV doc pm an cdv ct), osl⟩) (hcd : codeIn (hd.heap_39 w.params) cdv qual = true) (hneed : 1 ≤ need)
    (hbind : ∀ (s : Shared) (h₀ : Heap) (L : Addr) (m : Str → Option Value), Fr h₀ L s.heap m → (hd.heap_39 w.params).In h₀ → BindsTo s (fnOf name qual params body scope dV kV doc pm an cdv ct) ⟨vs, kw⟩ binds)
    (hkind : (binds.all fun y => scope.names.lookup y.1 == some .local || scope.names.lookup y.1 == some .cell) = true) (hnd : ((cellsFrom 0 scope.names []).map (·.1)).Nodup) (hco : scope.isCoroutine = false) (hgen : scope.isGenerator = false) (hk : scope.kind = .function) :
    Spec w p loose mean mg mb need news f vs kw Post := by
  unfold Spec
  intro dp un gd cn cs a ccd cl outer A₀ base h₀ L m s Q E B F X N T hkk hdp hun hret
  refine wpAny_call ?_
  refine code_defC B F X N T rfl rfl hkk ho hcd ?_ (hbind s h₀ L m F X) hkind hnd ?_ hco hgen hk
  · show dp < recursionLimit
    omega
  · intro g' L' h' tk' cells' FG' F' N' Y' B' X' T' l1
    exact h dp un gd cn cs a ccd cl outer A₀ base h₀ L m s Q E g' L' h' tk' cells' B F X N T hkk hdp hun hret FG' F' N' Y' B' X' T' l1
noncomputable def fb2 : List Stmt × Scope := by
  refine (?f : (p : Arguments) → (b : List Stmt) → (s : Scope) → IsDef (stAt 2) p b s → List Stmt × Scope) _ _ _ ⟨_, _, _, _, _, _, _, rfl⟩
  case f => exact fun _ b s _ => (b, s)
noncomputable def fb3 : List Stmt × Scope := by
  refine (?f : (p : Arguments) → (b : List Stmt) → (s : Scope) → IsDef (stAt 3) p b s → List Stmt × Scope) _ _ _ ⟨_, _, _, _, _, _, _, rfl⟩
  case f => exact fun _ b s _ => (b, s)
noncomputable def fb4 : List Stmt × Scope := by
  refine (?f : (p : Arguments) → (b : List Stmt) → (s : Scope) → IsDef (stAt 4) p b s → List Stmt × Scope) _ _ _ ⟨_, _, _, _, _, _, _, rfl⟩
  case f => exact fun _ b s _ => (b, s)
noncomputable def fb5 : List Stmt × Scope := by
  refine (?f : (p : Arguments) → (b : List Stmt) → (s : Scope) → IsDef (stAt 5) p b s → List Stmt × Scope) _ _ _ ⟨_, _, _, _, _, _, _, rfl⟩
  case f => exact fun _ b s _ => (b, s)
noncomputable def fb6 : List Stmt × Scope := by
  refine (?f : (p : Arguments) → (b : List Stmt) → (s : Scope) → IsDef (stAt 6) p b s → List Stmt × Scope) _ _ _ ⟨_, _, _, _, _, _, _, rfl⟩
  case f => exact fun _ b s _ => (b, s)
noncomputable def fb7 : List Stmt × Scope := by
  refine (?f : (p : Arguments) → (b : List Stmt) → (s : Scope) → IsDef (stAt 7) p b s → List Stmt × Scope) _ _ _ ⟨_, _, _, _, _, _, _, rfl⟩
  case f => exact fun _ b s _ => (b, s)
noncomputable def fb9 : List Stmt × Scope := by
  refine (?f : (p : Arguments) → (b : List Stmt) → (s : Scope) → IsDef (stAt 9) p b s → List Stmt × Scope) _ _ _ ⟨_, _, _, _, _, _, _, rfl⟩
  case f => exact fun _ b s _ => (b, s)
noncomputable def fb10 : List Stmt × Scope := by
  refine (?f : (p : Arguments) → (b : List Stmt) → (s : Scope) → IsDef (stAt 10) p b s → List Stmt × Scope) _ _ _ ⟨_, _, _, _, _, _, _, rfl⟩
  case f => exact fun _ b s _ => (b, s)
noncomputable def fb11 : List Stmt × Scope := by
  refine (?f : (p : Arguments) → (b : List Stmt) → (s : Scope) → IsDef (stAt 11) p b s → List Stmt × Scope) _ _ _ ⟨_, _, _, _, _, _, _, rfl⟩
  case f => exact fun _ b s _ => (b, s)
noncomputable def fb12 : List Stmt × Scope := by
  refine (?f : (p : Arguments) → (b : List Stmt) → (s : Scope) → IsDef (stAt 12) p b s → List Stmt × Scope) _ _ _ ⟨_, _, _, _, _, _, _, rfl⟩
  case f => exact fun _ b s _ => (b, s)
noncomputable def fb25 : List Stmt × Scope := by
  refine (?f : (p : Arguments) → (b : List Stmt) → (s : Scope) → IsDef (stAt 25) p b s → List Stmt × Scope) _ _ _ ⟨_, _, _, _, _, _, _, rfl⟩
  case f => exact fun _ b s _ => (b, s)
noncomputable def fb31 : List Stmt × Scope := by
  refine (?f : (p : Arguments) → (b : List Stmt) → (s : Scope) → IsDef (stAt 31) p b s → List Stmt × Scope) _ _ _ ⟨_, _, _, _, _, _, _, rfl⟩
  case f => exact fun _ b s _ => (b, s)
noncomputable def fb32 : List Stmt × Scope := by
  refine (?f : (p : Arguments) → (b : List Stmt) → (s : Scope) → IsDef (stAt 32) p b s → List Stmt × Scope) _ _ _ ⟨_, _, _, _, _, _, _, rfl⟩
  case f => exact fun _ b s _ => (b, s)
noncomputable def fb33 : List Stmt × Scope := by
  refine (?f : (p : Arguments) → (b : List Stmt) → (s : Scope) → IsDef (stAt 33) p b s → List Stmt × Scope) _ _ _ ⟨_, _, _, _, _, _, _, rfl⟩
  case f => exact fun _ b s _ => (b, s)
end
local macro_rules | `(tactic| k_all) => `(tactic| ((k_extra "on:kall"); assumption))
local macro_rules | `(tactic| k_all) => `(tactic| ((k_extra "on:kall"); first | exact all_ne (by assumption) (by first | exact Nat.le_refl _ | omega) | fail "k_all"))
local macro_rules | `(tactic| k_mem) => `(tactic| ((k_extra "on:kmem"); assumption))
local macro_rules | `(tactic| size_fits) => `(tactic| ((k_extra "on:size"); with_reducible assumption))
local macro_rules | `(tactic| walk_at "pyIter ref") => `(tactic| ((k_extra "on:iter"); refine stop_here ?_))
-- LC1
theorem again_LC1 : True := by w_top off; (try walk1); trivial
section
section
theorem lay_3 : True := by
  k_with "on:iter" => (fail_if_success (have z9 := off_LC1))
  k_with "my:out" => (
      refine' ret_isI (by assumption) (by first | rfl | (simp only [*]; done) | fail "my:out: another int") (by k_asm) (by k_asm) (by first | exact fun _ h => h | kcj_all))
  k_with "my:use" => (
      (case k1 => k_asm); (case k2 => k_asm); (case k3 => k_asm); (case k4 => k_asm); (case k5 => k_asm)
      (case kK => first | exact rfl | assumption)
      (case kd => ktr_room)
      (case ku => ktr_units))
  k_with "my:useI" => (
      walk_at "my:use"
      intro _ _ _ _ _
      (try dsimp only)
      (try k_fold))
  k_with "my:fact" => ((fail_if_success (have z9 := off_LC1)); (
      first
      | (with_reducible assumption) | omega
      | (exact IntMulOk.of_left (intBits_le_64 (by omega) (by omega)))
      | (exact IntMulOk.of_right (intBits_le_64 (by omega) (by omega)))
      | (exact bits_add_le (by omega) (by omega))
      | (exact PyProof.noPylong_small (by omega))
      | mul_fits))
  k_with "call ref" => (k_here; (with_reducible show wpAny _ _ (call (Value.ref 99) _ _) _ _ _); k_dflt (refine' Spec.useI (spec_add _ _ _ _ _ _ _ _ _ _ _) (by k_asm) (by k_asm) (by k_asm) (by k_asm) (by k_asm) (by first | exact rfl | assumption) (by ktr_room) (by ktr_units) ?_); walk_at "my:useE")
  k_with "call ref" => (k_here; (with_reducible show wpAny _ _ (call (Value.ref 106) _ _) _ _ _); k_dflt (refine' Spec.useI (spec_and _ _ _ _ _ _ _ _ _ _ _) (by k_asm) (by k_asm) (by k_asm) (by k_asm) (by k_asm) (by first | exact rfl | assumption) (by ktr_room) (by ktr_units) ?_); walk_at "my:useE")
  k_with "call ref" => (k_here; (with_reducible show wpAny _ _ (call (Value.ref 148) _ _) _ _ _); k_dflt (refine' Spec.useI (spec_or _ _ _ _ _ _ _ _ _ _ _) (by k_asm) (by k_asm) (by k_asm) (by k_asm) (by k_asm) (by first | exact rfl | assumption) (by ktr_room) (by ktr_units) ?_); walk_at "my:useE")
  k_with "call ref" => (k_here; (with_reducible show wpAny _ _ (call (Value.ref 169) _ _) _ _ _); k_dflt (refine' Spec.useI (spec_xor _ _ _ _ _ _ _ _ _ _ _) (by k_asm) (by k_asm) (by k_asm) (by k_asm) (by k_asm) (by first | exact rfl | assumption) (by ktr_room) (by ktr_units) ?_); walk_at "my:useE")
  k_with "call ref" => (k_here; (with_reducible show wpAny _ _ (call (Value.ref 141) _ _) _ _ _); k_dflt (refine' Spec.useI (spec_neg _ _ _ _ _ _ _ _ _) (by k_asm) (by k_asm) (by k_asm) (by k_asm) (by k_asm) (by first | exact rfl | assumption) (by ktr_room) (by ktr_units) ?_); walk_at "my:useE")
  k_with "call ref" => (k_here; (with_reducible show wpAny _ _ (call (Value.ref 127) _ _) _ _ _); k_dflt (refine' Spec.useI (spec_mod _ _ _ _ _ _ _ _ _ _ _ (by walk_at "my:fact")) (by k_asm) (by k_asm) (by k_asm) (by k_asm) (by k_asm) (by first | exact rfl | assumption) (by ktr_room) (by ktr_units) ?_); walk_at "my:useE")
  k_with "call ref" => ((fail_if_success (have z9 := off_LC1)); (k_here; (with_reducible show wpAny _ _ (call (Value.ref 134) _ _) _ _ _); k_dflt (refine' Spec.useI (spec_mul _ _ _ _ _ _ _ _ _ _ _ (by walk_at "my:fact")) (by k_asm) (by k_asm) (by k_asm) (by k_asm) (by k_asm) (by first | exact rfl | assumption) (by ktr_room) (by ktr_units) ?_); walk_at "my:useE"))
  k_with "call ref" => (k_here; (with_reducible show wpAny _ _ (call (Value.ref 155) _ _) _ _ _); k_dflt (refine' Spec.useI (spec_rshift _ _ _ _ _ _ _ _ _ _ _ (by walk_at "my:fact")) (by k_asm) (by k_asm) (by k_asm) (by k_asm) (by k_asm) (by first | exact rfl | assumption) (by ktr_room) (by ktr_units) ?_); walk_at "my:useE")
  k_with "call ref" => ((fail_if_success (have z9 := off_LC1)); (k_here; (with_reducible show wpAny _ _ (call (Value.ref 113) _ _) _ _ _); k_dflt (refine' Spec.useI (spec_floordiv _ _ _ _ _ _ _ _ _ _ _ (by walk_at "my:fact") (by walk_at "my:fact")) (by k_asm) (by k_asm) (by k_asm) (by k_asm) (by k_asm) (by first | exact rfl | assumption) (by ktr_room) (by ktr_units) ?_); walk_at "my:useE"))
  k_with "call ref" => ((fail_if_success (have z9 := off_LC1)); (k_here; (with_reducible show wpAny _ _ (call (Value.ref 120) _ _) _ _ _); k_dflt (refine' Spec.useI (spec_lshift _ _ _ _ _ _ _ _ _ _ _ (by walk_at "my:fact") (by walk_at "my:fact")) (by k_asm) (by k_asm) (by k_asm) (by k_asm) (by k_asm) (by first | exact rfl | assumption) (by ktr_room) (by ktr_units) ?_); walk_at "my:useE"))
  k_with "my:enter" => (
      (case kA => exact rfl); (case kF => exact rfl); (case kK => assumption); (case k1 => k_asm); (case k2 => k_asm); (case k3 => k_asm); (case k4 => k_asm); (case k5 => k_asm)
      (case k6 => k_is); (case k7 => k_is); (case k8 => ktr_room); (case k9 => exact BindsTo.of_eq rfl); (case c5 => decide); (case kB => exact locs rfl)
      (case c2 => exact rfl); (case c3 => exact rfl); (case c4 => exact rfl)
      k_whole
      intro zg zL zh zFG zF zN zB zX zT
      (try dsimp only)
      (try dsimp only [List.reverse, List.reverseAux, List.lookup] at zF)
      (try k_lift zB)
      (try k_fold))
  k_with "call ref" => ((fail_if_success (have z9 := off_LC1)); (k_here; (with_reducible show wpAny _ _ (call (Value.ref 204) _ _) _ _ _); k_dflt (refine' Spec.useI (spec_power _ _ _ _ _ _ _ _ _ _ _ (by walk_at "my:fact") (by walk_at "my:fact") (by walk_at "my:fact")) (by k_asm) (by k_asm) (by k_asm) (by k_asm) (by k_asm) (by first | exact rfl | assumption) (by ktr_room) (by ktr_units) ?_); walk_at "my:useE"))
  trivial
noncomputable def turnF (b : Int) (c : Int × Int) : Int × Int :=
  let t := Builtin.bitOr (Builtin.bitAnd (c.1 * 2 ^ (1 : Int).toNat) (1 * 2 ^ (1 * b).toNat - 1)) (c.1.fdiv (2 ^ (b - 1).toNat))
  (t, if t < c.2 then t else c.2)
noncomputable def turnsF (b : Int) (r : Int) : Nat → Int × Int
  | 0 => (r, r)
  | n + 1 => turnF b (turnsF b r n)
theorem least_step {x y : Int} {pre : List Int} {k turned least : Int} (hx : ∀ n, 0 ≤ (turnsF y x n).1 ∧ (turnsF y x n).1 < 64) (h1 : turned = (turnsF y x pre.length).1) (h2 : least = (turnsF y x pre.length).2) :
    Builtin.bitOr (Builtin.bitAnd (turned * 2 ^ (1 : Int).toNat) (1 * 2 ^ (1 * y).toNat - 1)) (turned.fdiv (2 ^ (y - 1).toNat)) = (turnsF y x (pre ++ [k]).length).1 ∧
    (if Builtin.bitOr (Builtin.bitAnd (turned * 2 ^ (1 : Int).toNat) (1 * 2 ^ (1 * y).toNat - 1)) (turned.fdiv (2 ^ (y - 1).toNat)) < least then Builtin.bitOr (Builtin.bitAnd (turned * 2 ^ (1 : Int).toNat) (1 * 2 ^ (1 * y).toNat - 1)) (turned.fdiv (2 ^ (y - 1).toNat)) else least) = (turnsF y x (pre ++ [k]).length).2 ∧
    0 ≤ Builtin.bitOr (Builtin.bitAnd (turned * 2 ^ (1 : Int).toNat) (1 * 2 ^ (1 * y).toNat - 1)) (turned.fdiv (2 ^ (y - 1).toNat)) ∧ Builtin.bitOr (Builtin.bitAnd (turned * 2 ^ (1 : Int).toNat) (1 * 2 ^ (1 * y).toNat - 1)) (turned.fdiv (2 ^ (y - 1).toNat)) < 64 := by
  have hl : (pre ++ [k]).length = pre.length + 1 := by simp
  have e := hx (pre.length + 1)
  rw [hl]
  subst h1 h2
  exact ⟨rfl, rfl, e⟩
theorem least_end {x y v : Int} (h : v = (turnsF y x (rangeKs 0 (y - 1 - 0).toNat).length).2) : v = (turnsF y x (y - 1).toNat).2 := by
  rw [h, rangeKs_length, Int.sub_zero]
def C_spec_least (w : World) (p : Program) (loose : List Str) (mean : ExcName → Option Value) (mg : Str → Option Value) (mb : Str → Option Value) (news : List (Addr × Obj)) (x : Int) (y : Int) (t : Tok) (u : Tok) (dp : Nat) (un : Nat) (gd : Option (List Code)) (cn : Str) (cs : Scope) (a : Addr) (ccd : Value) (cl : List (Str × Addr)) (outer : List Env) (A₀ : Around) (base : Heap) (h₀ : Heap) (L : Addr) (m : Str → Option Value) (s : Shared) (Q : Value → Shared → Prop) (E : Value → Shared → Prop) (g' : Heap) (L' : Addr) (h' : Heap) : Prop :=
  (4 ≤ y) →
  (y ≤ 6) →
  (∀ n, 0 ≤ (turnsF y x n).1 ∧ (turnsF y x n).1 < 64) →
  RunD w p loose mean mg mb 4 news 218 (isI (turnsF y x (y - 1).toNat).2 news) (Str.ofString "_law_least") fb32.1 fb32.2 (.ref 217) [(Str.ofString "ring", .int x t), (Str.ofString "beads", .int y u)] dp un gd cn cs a ccd cl outer A₀ base h₀ L m s Q E g' L' h'
abbrev V_LC1 := (World) × (Program) × (List Str) × (ExcName → Option Value) × (Str → Option Value) × (Str → Option Value) × (List (Addr × Obj)) × (Int) × (Int) × (Tok) × (Tok) × (Nat) × (Nat) × (Option (List Code)) × (Str) × (Scope) × (Addr) × (Value) × (List (Str × Addr)) × (List Env) × (Around) × (Heap) × (Heap) × (Addr) × (Str → Option Value) × (Shared) × (Value → Shared → Prop) × (Value → Shared → Prop) × (Heap) × (Addr) × (Heap)
def D_spec_least (v : V_LC1) : Prop := C_spec_least v.1 v.2.1 v.2.2.1 v.2.2.2.1 v.2.2.2.2.1 v.2.2.2.2.2.1 v.2.2.2.2.2.2.1 v.2.2.2.2.2.2.2.1 v.2.2.2.2.2.2.2.2.1 v.2.2.2.2.2.2.2.2.2.1 v.2.2.2.2.2.2.2.2.2.2.1 v.2.2.2.2.2.2.2.2.2.2.2.1 v.2.2.2.2.2.2.2.2.2.2.2.2.1 v.2.2.2.2.2.2.2.2.2.2.2.2.2.1 v.2.2.2.2.2.2.2.2.2.2.2.2.2.2.1 v.2.2.2.2.2.2.2.2.2.2.2.2.2.2.2.1 v.2.2.2.2.2.2.2.2.2.2.2.2.2.2.2.2.1 v.2.2.2.2.2.2.2.2.2.2.2.2.2.2.2.2.2.1 v.2.2.2.2.2.2.2.2.2.2.2.2.2.2.2.2.2.2.1 v.2.2.2.2.2.2.2.2.2.2.2.2.2.2.2.2.2.2.2.1 v.2.2.2.2.2.2.2.2.2.2.2.2.2.2.2.2.2.2.2.2.1 v.2.2.2.2.2.2.2.2.2.2.2.2.2.2.2.2.2.2.2.2.2.1 v.2.2.2.2.2.2.2.2.2.2.2.2.2.2.2.2.2.2.2.2.2.2.1 v.2.2.2.2.2.2.2.2.2.2.2.2.2.2.2.2.2.2.2.2.2.2.2.1 v.2.2.2.2.2.2.2.2.2.2.2.2.2.2.2.2.2.2.2.2.2.2.2.2.1 v.2.2.2.2.2.2.2.2.2.2.2.2.2.2.2.2.2.2.2.2.2.2.2.2.2.1 v.2.2.2.2.2.2.2.2.2.2.2.2.2.2.2.2.2.2.2.2.2.2.2.2.2.2.1 v.2.2.2.2.2.2.2.2.2.2.2.2.2.2.2.2.2.2.2.2.2.2.2.2.2.2.2.1 v.2.2.2.2.2.2.2.2.2.2.2.2.2.2.2.2.2.2.2.2.2.2.2.2.2.2.2.2.1 v.2.2.2.2.2.2.2.2.2.2.2.2.2.2.2.2.2.2.2.2.2.2.2.2.2.2.2.2.2.1 v.2.2.2.2.2.2.2.2.2.2.2.2.2.2.2.2.2.2.2.2.2.2.2.2.2.2.2.2.2.2
def VP_LC1 (v : V_LC1) : Prop := D_spec_least v
theorem ne_LC1 : Nonempty V_LC1 := ⟨((⟨fun _ _ => 0, { strHash := fun _ => 0, shareClass := fun _ => 0, mergeTok := id, idOf := fun _ => 0, idOfShared := fun _ _ => 0, followText := fun _ => false, idOfImm := fun _ => 0 }⟩ : World), (default : Program), ([] : List Str), (fun _  => none), (fun _  => none), (fun _  => none), ([] : List (Addr × Obj)), (0 : Int), (0 : Int), (0 : Tok), (0 : Tok), (0 : Nat), (0 : Nat), (none : Option (List Code)), (Str.empty : Str), (default : Scope), (0 : Addr), (.none : Value), ([] : List (Str × Addr)), ([] : List Env), ({} : Around), ({} : Heap), ({} : Heap), (0 : Addr), (fun _  => none), ({} : Shared), (fun _ _  => True), (fun _ _  => True), ({} : Heap), (0 : Addr), ({} : Heap))⟩
noncomputable def k_LC1 : {v : V_LC1 // VP_LC1 v → ∀ x, VP_LC1 x} := Classical.choice (drink ne_LC1 VP_LC1)
noncomputable def K_LC1.w : World := k_LC1.1.1
noncomputable def K_LC1.p : Program := k_LC1.1.2.1
noncomputable def K_LC1.loose : List Str := k_LC1.1.2.2.1
noncomputable def K_LC1.mean : ExcName → Option Value := k_LC1.1.2.2.2.1
noncomputable def K_LC1.mg : Str → Option Value := k_LC1.1.2.2.2.2.1
noncomputable def K_LC1.mb : Str → Option Value := k_LC1.1.2.2.2.2.2.1
noncomputable def K_LC1.news : List (Addr × Obj) := k_LC1.1.2.2.2.2.2.2.1
noncomputable def K_LC1.x : Int := k_LC1.1.2.2.2.2.2.2.2.1
noncomputable def K_LC1.y : Int := k_LC1.1.2.2.2.2.2.2.2.2.1
noncomputable def K_LC1.t : Tok := k_LC1.1.2.2.2.2.2.2.2.2.2.1
noncomputable def K_LC1.u : Tok := k_LC1.1.2.2.2.2.2.2.2.2.2.2.1
noncomputable def K_LC1.dp : Nat := k_LC1.1.2.2.2.2.2.2.2.2.2.2.2.1
noncomputable def K_LC1.un : Nat := k_LC1.1.2.2.2.2.2.2.2.2.2.2.2.2.1
noncomputable def K_LC1.gd : Option (List Code) := k_LC1.1.2.2.2.2.2.2.2.2.2.2.2.2.2.1
noncomputable def K_LC1.cn : Str := k_LC1.1.2.2.2.2.2.2.2.2.2.2.2.2.2.2.1
noncomputable def K_LC1.cs : Scope := k_LC1.1.2.2.2.2.2.2.2.2.2.2.2.2.2.2.2.1
noncomputable def K_LC1.a : Addr := k_LC1.1.2.2.2.2.2.2.2.2.2.2.2.2.2.2.2.2.1
noncomputable def K_LC1.ccd : Value := k_LC1.1.2.2.2.2.2.2.2.2.2.2.2.2.2.2.2.2.2.1
noncomputable def K_LC1.cl : List (Str × Addr) := k_LC1.1.2.2.2.2.2.2.2.2.2.2.2.2.2.2.2.2.2.2.1
noncomputable def K_LC1.outer : List Env := k_LC1.1.2.2.2.2.2.2.2.2.2.2.2.2.2.2.2.2.2.2.2.1
noncomputable def K_LC1.A₀ : Around := k_LC1.1.2.2.2.2.2.2.2.2.2.2.2.2.2.2.2.2.2.2.2.2.1
noncomputable def K_LC1.base : Heap := k_LC1.1.2.2.2.2.2.2.2.2.2.2.2.2.2.2.2.2.2.2.2.2.2.1
noncomputable def K_LC1.h₀ : Heap := k_LC1.1.2.2.2.2.2.2.2.2.2.2.2.2.2.2.2.2.2.2.2.2.2.2.1
noncomputable def K_LC1.L : Addr := k_LC1.1.2.2.2.2.2.2.2.2.2.2.2.2.2.2.2.2.2.2.2.2.2.2.2.1
noncomputable def K_LC1.m : Str → Option Value := k_LC1.1.2.2.2.2.2.2.2.2.2.2.2.2.2.2.2.2.2.2.2.2.2.2.2.2.1
noncomputable def K_LC1.s : Shared := k_LC1.1.2.2.2.2.2.2.2.2.2.2.2.2.2.2.2.2.2.2.2.2.2.2.2.2.2.1
noncomputable def K_LC1.Q : Value → Shared → Prop := k_LC1.1.2.2.2.2.2.2.2.2.2.2.2.2.2.2.2.2.2.2.2.2.2.2.2.2.2.2.1
noncomputable def K_LC1.E : Value → Shared → Prop := k_LC1.1.2.2.2.2.2.2.2.2.2.2.2.2.2.2.2.2.2.2.2.2.2.2.2.2.2.2.2.1
noncomputable def K_LC1.g' : Heap := k_LC1.1.2.2.2.2.2.2.2.2.2.2.2.2.2.2.2.2.2.2.2.2.2.2.2.2.2.2.2.2.1
noncomputable def K_LC1.L' : Addr := k_LC1.1.2.2.2.2.2.2.2.2.2.2.2.2.2.2.2.2.2.2.2.2.2.2.2.2.2.2.2.2.2.1
noncomputable def K_LC1.h' : Heap := k_LC1.1.2.2.2.2.2.2.2.2.2.2.2.2.2.2.2.2.2.2.2.2.2.2.2.2.2.2.2.2.2.2
section
open K_LC1
theorem c_spec_least : C_spec_least w p loose mean mg mb news x y t u dp un gd cn cs a ccd cl outer A₀ base h₀ L m s Q E g' L' h' := by
  k_with "state" => first | exact ⟨rfl, rfl, hx 0⟩ | exact least_step hx (by assumption) (by assumption)
  unfold C_spec_least RunD
  dsimp only [fb32]
  k_fill
  intro h h' hx B F X N T hk hdp hun hret FG' F' N' B' X' T'
  (try dsimp only)
  (try dsimp only [List.reverse, List.reverseAux, List.lookup] at F')
  (try k_lift B')
  (try k_fold)
  k_steps
  refine Stop.go ?_
  k_state (fun pre turned least => turned = (turnsF y x pre.length).1 ∧ least = (turnsF y x pre.length).2 ∧ 0 ≤ turned ∧ turned < 64) "turned" "least"
  k_steps
  refine' ret_isI ?e0 ?e1 ?e2 ?e3 ?e4
  (case e0 => assumption)
  (case e2 => k_asm)
  (case e3 => k_asm)
  (case e1 => exact least_end (by assumption))
  (case e4 => exact fun _ h => h)
end
theorem all_LC1 : ∀ v, VP_LC1 v := k_LC1.2 c_spec_least
section
variable (w : World) (p : Program) (loose : List Str) (mean : ExcName → Option Value) (mg mb : Str → Option Value)
theorem spec_least (news : List (Addr × Obj)) (x y : Int) (t u : Tok) (h : 4 ≤ y) (h' : y ≤ 6) (hx : ∀ n, 0 ≤ (turnsF y x n).1 ∧ (turnsF y x n).1 < 64) : Spec w p loose mean mg mb 4 news 218 [.int x t, .int y u] [] (isI (turnsF y x (y - 1).toNat).2 news) := by
  refine' spec_body (qual := Str.ofString "_law_least") (body := fb32.1) (scope := fb32.2) (cdv := .ref 217) (binds := [(Str.ofString "ring", .int x t), (Str.ofString "beads", .int y u)]) (fun z0 z1 z2 z3 z4 z5 z6 z7 z8 z9 z10 z11 z12 z13 z14 z15 z16 z17 z18 z19 => (all_LC1 (w, p, loose, mean, mg, mb, news, x, y, t, u, z0, z1, z2, z3, z4, z5, z6, z7, z8, z9, z10, z11, z12, z13, z14, z15, z16, z17, z18, z19)) h h' hx) ?ho ?hcd ?h1 ?hb ?hl ?c1 ?c2 ?c3 ?hc
  (case c1 => exact rfl); (case c2 => exact rfl); (case c3 => exact rfl)
  (case ho => k_is)
  (case hcd => k_is)
  (case h1 => omega)
  (case hb => exact fun _ _ _ _ _ _ => BindsTo.of_eq rfl)
  (case hl => exact locs rfl)
  (case hc => decide)
end
end
end
theorem off_LC1 : True := trivial
-- LC2
theorem again_LC2 : True := by w_top off; (try walk1); trivial
section
section
theorem lay_4 : True := by
  k_with "on:size" => (fail_if_success (have z9 := off_LC2))
  k_with "my:fact" => first | (with_reducible assumption) | omega
  k_with "my:mul" => first
      | (with_reducible assumption)
      | (exact IntMulOk.of_left (intBits_le_64 (by omega) (by omega)))
      | (exact IntMulOk.of_right (intBits_le_64 (by omega) (by omega)))
  k_with "my:bits" => first | (with_reducible assumption) | (exact bits_add_le (by omega) (by omega))
  k_with "my:nopy" => first | (with_reducible assumption) | (exact PyProof.noPylong_small (by omega))
  k_with "call ref" => (k_here; (with_reducible show wpAny _ _ (call (Value.ref 134) _ _) _ _ _); k_dflt (refine' Spec.useI (spec_mul _ _ _ _ _ _ _ _ _ _ _ (by walk_at "my:mul")) (by k_asm) (by k_asm) (by k_asm) (by k_asm) (by k_asm) (by first | exact rfl | assumption) (by ktr_room) (by ktr_units) ?_); walk_at "my:useE")
  k_with "call ref" => (k_here; (with_reducible show wpAny _ _ (call (Value.ref 113) _ _) _ _ _); k_dflt (refine' Spec.useI (spec_floordiv _ _ _ _ _ _ _ _ _ _ _ (by walk_at "my:fact") (by walk_at "my:nopy")) (by k_asm) (by k_asm) (by k_asm) (by k_asm) (by k_asm) (by first | exact rfl | assumption) (by ktr_room) (by ktr_units) ?_); walk_at "my:useE")
  k_with "call ref" => (k_here; (with_reducible show wpAny _ _ (call (Value.ref 120) _ _) _ _ _); k_dflt (refine' Spec.useI (spec_lshift _ _ _ _ _ _ _ _ _ _ _ (by walk_at "my:fact") (by walk_at "my:bits")) (by k_asm) (by k_asm) (by k_asm) (by k_asm) (by k_asm) (by first | exact rfl | assumption) (by ktr_room) (by ktr_units) ?_); walk_at "my:useE")
  k_with "my:wend" => (
      (case hn => kst_in); (case hk => kst_all); (case hr => ksw_same))
  k_with "call ref" => ((fail_if_success (have z9 := off_LC2)); (k_here; (with_reducible show wpAny _ _ (call (Value.ref 204) _ _) _ _ _); k_dflt (refine' Spec.useI (spec_power _ _ _ _ _ _ _ _ _ _ _ (by walk_at "my:mul") (by walk_at "my:fact") (by walk_at "my:bits")) (by k_asm) (by k_asm) (by k_asm) (by k_asm) (by k_asm) (by first | exact rfl | assumption) (by ktr_room) (by ktr_units) ?_); walk_at "my:useE"))
  k_with "exec While Compare cons nil" => ((fail_if_success (have z9 := off_LC2)); (refine stop_here ?_))
  k_with "KswEnd" => ((fail_if_success (have z9 := off_LC2)); (refine stop_here ?_))
  k_with "ite" => ((fail_if_success (have z9 := off_LC2)); (refine stop_here ?_))
  trivial
noncomputable def gosper (r : Int) : Int :=
  Builtin.bitOr (Builtin.bitOr r (r - 1) + 1) ((Builtin.bitXor (Builtin.bitOr r (r - 1) + 1) r).fdiv (Builtin.bitAnd r (-r) * 2 ^ (2 : Int).toNat))
def ringOk (r : Int) : Prop :=
  0 ≤ Builtin.bitAnd r (-r) ∧ Builtin.bitAnd r (-r) < 1000 ∧ Builtin.bitAnd r (-r) * 2 ^ (2 : Int).toNat ≠ 0 ∧ (Builtin.bitAnd r (-r) * 2 ^ (2 : Int).toNat).natAbs < 1073741824
noncomputable def ringsOk (lim : Int) : Int → List Int → Prop
  | r, [] => ¬ r < lim
  | r, q :: rest => (r = q ∧ r < lim) ∧ ringOk r ∧ ringsOk lim (gosper r) rest
theorem rings_lt {lim r : Int} {l : List Int} (h : ringsOk lim r l) (hr : r < lim) : ∃ rest, l = r :: rest ∧ ringOk r ∧ ringsOk lim (gosper r) rest := by
  cases l with
  | nil => exact absurd hr h
  | cons q rest => exact ⟨rest, by rw [h.1.1], h.2.1, h.2.2⟩
theorem rings_ge {lim r : Int} {l : List Int} (h : ringsOk lim r l) (hr : ¬ r < lim) : l = [] := by
  cases l with
  | nil => rfl
  | cons q rest => exact absurd h.1.2 hr
structure RingsW (lim : Int) (R : List Int) (r : Int) (rings : List Int) : Prop where
  one : R = rings ++ R.drop rings.length
  two : ringsOk lim r (R.drop rings.length)
structure RingsT (lim : Int) (R : List Int) (r : Int) (rings : List Int) : Prop where
  one : ∃ rest, R.drop rings.length = r :: rest ∧ ringsOk lim (gosper r) rest
  two : R = rings ++ R.drop rings.length
theorem rings_turn {lim r : Int} {R rings : List Int} (h : RingsW lim R r rings) (hr : r < lim) : RingsT lim R r rings ∧ ringOk r := by
  obtain ⟨rest, e1, e2, e3⟩ := rings_lt h.two hr
  exact ⟨⟨⟨rest, e1, e3⟩, h.one⟩, e2⟩
theorem rings_step {lim r : Int} {R rings : List Int} (h : RingsT lim R r rings) : RingsW lim R (gosper r) (rings ++ [r]) := by
  obtain ⟨⟨rest, h1, h2⟩, e⟩ := h
  have h3 : R.drop (rings ++ [r]).length = rest := by
    rw [List.length_append, List.length_singleton, ← List.drop_drop, h1]; rfl
  refine ⟨?_, by rw [h3]; exact h2⟩
  rw [h3]
  rw [h1] at e
  rw [List.append_assoc]
  exact e
theorem rings_less {lim r : Int} {R rings : List Int} (h : RingsT lim R r rings) : R.length - (rings ++ [r]).length < R.length - rings.length := by
  obtain ⟨⟨rest, h1, _⟩, _⟩ := h
  have h1 := congrArg List.length h1
  rw [List.length_drop, List.length_cons] at h1
  rw [List.length_append, List.length_singleton]
  omega
theorem rings_size {lim r : Int} {R rings : List Int} {vs : List Value} (h : RingsT lim R r rings) (hi : IntsAre vs rings) (hR : R.length ≤ 1000) : vs.toArray.size ≤ sizeLine := by
  obtain ⟨⟨rest, h1, _⟩, _⟩ := h
  have h1 := congrArg List.length h1
  rw [List.length_drop, List.length_cons] at h1
  rw [List.size_toArray, hi.length, sizeLine_eq]
  omega
theorem rings_end {lim r : Int} {R rings : List Int} (h : RingsW lim R r rings) (hr : ¬ r < lim) : rings = R := by
  have e := h.one
  rw [rings_ge h.two hr, List.append_nil] at e; exact e.symm
def C_spec_rings (w : World) (p : Program) (loose : List Str) (mean : ExcName → Option Value) (mg : Str → Option Value) (mb : Str → Option Value) (news : List (Addr × Obj)) (x : Int) (y : Int) (t : Tok) (u : Tok) (R : List Int) (dp : Nat) (un : Nat) (gd : Option (List Code)) (cn : Str) (cs : Scope) (a : Addr) (ccd : Value) (cl : List (Str × Addr)) (outer : List Env) (A₀ : Around) (base : Heap) (h₀ : Heap) (L : Addr) (m : Str → Option Value) (s : Shared) (Q : Value → Shared → Prop) (E : Value → Shared → Prop) (g' : Heap) (L' : Addr) (h' : Heap) : Prop :=
  (4 ≤ x) →
  (x ≤ 6) →
  (2 ≤ y) →
  (y ≤ 4) →
  (R.length ≤ 1000) →
  (ringsOk (1 * 2 ^ x.toNat) (1 * 2 ^ (1 * y).toNat - 1) R) →
  RunD w p loose mean mg mb 3 news 211 (isL R news) (Str.ofString "_law_rings") fb31.1 fb31.2 (.ref 210) [(Str.ofString "beads", .int x t), (Str.ofString "dark", .int y u)] dp un gd cn cs a ccd cl outer A₀ base h₀ L m s Q E g' L' h'
abbrev V_LC2 := (World) × (Program) × (List Str) × (ExcName → Option Value) × (Str → Option Value) × (Str → Option Value) × (List (Addr × Obj)) × (Int) × (Int) × (Tok) × (Tok) × (List Int) × (Nat) × (Nat) × (Option (List Code)) × (Str) × (Scope) × (Addr) × (Value) × (List (Str × Addr)) × (List Env) × (Around) × (Heap) × (Heap) × (Addr) × (Str → Option Value) × (Shared) × (Value → Shared → Prop) × (Value → Shared → Prop) × (Heap) × (Addr) × (Heap)
def D_spec_rings (v : V_LC2) : Prop := C_spec_rings v.1 v.2.1 v.2.2.1 v.2.2.2.1 v.2.2.2.2.1 v.2.2.2.2.2.1 v.2.2.2.2.2.2.1 v.2.2.2.2.2.2.2.1 v.2.2.2.2.2.2.2.2.1 v.2.2.2.2.2.2.2.2.2.1 v.2.2.2.2.2.2.2.2.2.2.1 v.2.2.2.2.2.2.2.2.2.2.2.1 v.2.2.2.2.2.2.2.2.2.2.2.2.1 v.2.2.2.2.2.2.2.2.2.2.2.2.2.1 v.2.2.2.2.2.2.2.2.2.2.2.2.2.2.1 v.2.2.2.2.2.2.2.2.2.2.2.2.2.2.2.1 v.2.2.2.2.2.2.2.2.2.2.2.2.2.2.2.2.1 v.2.2.2.2.2.2.2.2.2.2.2.2.2.2.2.2.2.1 v.2.2.2.2.2.2.2.2.2.2.2.2.2.2.2.2.2.2.1 v.2.2.2.2.2.2.2.2.2.2.2.2.2.2.2.2.2.2.2.1 v.2.2.2.2.2.2.2.2.2.2.2.2.2.2.2.2.2.2.2.2.1 v.2.2.2.2.2.2.2.2.2.2.2.2.2.2.2.2.2.2.2.2.2.1 v.2.2.2.2.2.2.2.2.2.2.2.2.2.2.2.2.2.2.2.2.2.2.1 v.2.2.2.2.2.2.2.2.2.2.2.2.2.2.2.2.2.2.2.2.2.2.2.1 v.2.2.2.2.2.2.2.2.2.2.2.2.2.2.2.2.2.2.2.2.2.2.2.2.1 v.2.2.2.2.2.2.2.2.2.2.2.2.2.2.2.2.2.2.2.2.2.2.2.2.2.1 v.2.2.2.2.2.2.2.2.2.2.2.2.2.2.2.2.2.2.2.2.2.2.2.2.2.2.1 v.2.2.2.2.2.2.2.2.2.2.2.2.2.2.2.2.2.2.2.2.2.2.2.2.2.2.2.1 v.2.2.2.2.2.2.2.2.2.2.2.2.2.2.2.2.2.2.2.2.2.2.2.2.2.2.2.2.1 v.2.2.2.2.2.2.2.2.2.2.2.2.2.2.2.2.2.2.2.2.2.2.2.2.2.2.2.2.2.1 v.2.2.2.2.2.2.2.2.2.2.2.2.2.2.2.2.2.2.2.2.2.2.2.2.2.2.2.2.2.2.1 v.2.2.2.2.2.2.2.2.2.2.2.2.2.2.2.2.2.2.2.2.2.2.2.2.2.2.2.2.2.2.2
def VP_LC2 (v : V_LC2) : Prop := D_spec_rings v
theorem ne_LC2 : Nonempty V_LC2 := ⟨((⟨fun _ _ => 0, { strHash := fun _ => 0, shareClass := fun _ => 0, mergeTok := id, idOf := fun _ => 0, idOfShared := fun _ _ => 0, followText := fun _ => false, idOfImm := fun _ => 0 }⟩ : World), (default : Program), ([] : List Str), (fun _  => none), (fun _  => none), (fun _  => none), ([] : List (Addr × Obj)), (0 : Int), (0 : Int), (0 : Tok), (0 : Tok), ([] : List Int), (0 : Nat), (0 : Nat), (none : Option (List Code)), (Str.empty : Str), (default : Scope), (0 : Addr), (.none : Value), ([] : List (Str × Addr)), ([] : List Env), ({} : Around), ({} : Heap), ({} : Heap), (0 : Addr), (fun _  => none), ({} : Shared), (fun _ _  => True), (fun _ _  => True), ({} : Heap), (0 : Addr), ({} : Heap))⟩
noncomputable def k_LC2 : {v : V_LC2 // VP_LC2 v → ∀ x, VP_LC2 x} := Classical.choice (drink ne_LC2 VP_LC2)
noncomputable def K_LC2.w : World := k_LC2.1.1
noncomputable def K_LC2.p : Program := k_LC2.1.2.1
noncomputable def K_LC2.loose : List Str := k_LC2.1.2.2.1
noncomputable def K_LC2.mean : ExcName → Option Value := k_LC2.1.2.2.2.1
noncomputable def K_LC2.mg : Str → Option Value := k_LC2.1.2.2.2.2.1
noncomputable def K_LC2.mb : Str → Option Value := k_LC2.1.2.2.2.2.2.1
noncomputable def K_LC2.news : List (Addr × Obj) := k_LC2.1.2.2.2.2.2.2.1
noncomputable def K_LC2.x : Int := k_LC2.1.2.2.2.2.2.2.2.1
noncomputable def K_LC2.y : Int := k_LC2.1.2.2.2.2.2.2.2.2.1
noncomputable def K_LC2.t : Tok := k_LC2.1.2.2.2.2.2.2.2.2.2.1
noncomputable def K_LC2.u : Tok := k_LC2.1.2.2.2.2.2.2.2.2.2.2.1
noncomputable def K_LC2.R : List Int := k_LC2.1.2.2.2.2.2.2.2.2.2.2.2.1
noncomputable def K_LC2.dp : Nat := k_LC2.1.2.2.2.2.2.2.2.2.2.2.2.2.1
noncomputable def K_LC2.un : Nat := k_LC2.1.2.2.2.2.2.2.2.2.2.2.2.2.2.1
noncomputable def K_LC2.gd : Option (List Code) := k_LC2.1.2.2.2.2.2.2.2.2.2.2.2.2.2.2.1
noncomputable def K_LC2.cn : Str := k_LC2.1.2.2.2.2.2.2.2.2.2.2.2.2.2.2.2.1
noncomputable def K_LC2.cs : Scope := k_LC2.1.2.2.2.2.2.2.2.2.2.2.2.2.2.2.2.2.1
noncomputable def K_LC2.a : Addr := k_LC2.1.2.2.2.2.2.2.2.2.2.2.2.2.2.2.2.2.2.1
noncomputable def K_LC2.ccd : Value := k_LC2.1.2.2.2.2.2.2.2.2.2.2.2.2.2.2.2.2.2.2.1
noncomputable def K_LC2.cl : List (Str × Addr) := k_LC2.1.2.2.2.2.2.2.2.2.2.2.2.2.2.2.2.2.2.2.2.1
noncomputable def K_LC2.outer : List Env := k_LC2.1.2.2.2.2.2.2.2.2.2.2.2.2.2.2.2.2.2.2.2.2.1
noncomputable def K_LC2.A₀ : Around := k_LC2.1.2.2.2.2.2.2.2.2.2.2.2.2.2.2.2.2.2.2.2.2.2.1
noncomputable def K_LC2.base : Heap := k_LC2.1.2.2.2.2.2.2.2.2.2.2.2.2.2.2.2.2.2.2.2.2.2.2.1
noncomputable def K_LC2.h₀ : Heap := k_LC2.1.2.2.2.2.2.2.2.2.2.2.2.2.2.2.2.2.2.2.2.2.2.2.2.1
noncomputable def K_LC2.L : Addr := k_LC2.1.2.2.2.2.2.2.2.2.2.2.2.2.2.2.2.2.2.2.2.2.2.2.2.2.1
noncomputable def K_LC2.m : Str → Option Value := k_LC2.1.2.2.2.2.2.2.2.2.2.2.2.2.2.2.2.2.2.2.2.2.2.2.2.2.2.1
noncomputable def K_LC2.s : Shared := k_LC2.1.2.2.2.2.2.2.2.2.2.2.2.2.2.2.2.2.2.2.2.2.2.2.2.2.2.2.1
noncomputable def K_LC2.Q : Value → Shared → Prop := k_LC2.1.2.2.2.2.2.2.2.2.2.2.2.2.2.2.2.2.2.2.2.2.2.2.2.2.2.2.2.1
noncomputable def K_LC2.E : Value → Shared → Prop := k_LC2.1.2.2.2.2.2.2.2.2.2.2.2.2.2.2.2.2.2.2.2.2.2.2.2.2.2.2.2.2.1
noncomputable def K_LC2.g' : Heap := k_LC2.1.2.2.2.2.2.2.2.2.2.2.2.2.2.2.2.2.2.2.2.2.2.2.2.2.2.2.2.2.2.1
noncomputable def K_LC2.L' : Addr := k_LC2.1.2.2.2.2.2.2.2.2.2.2.2.2.2.2.2.2.2.2.2.2.2.2.2.2.2.2.2.2.2.2.1
noncomputable def K_LC2.h' : Heap := k_LC2.1.2.2.2.2.2.2.2.2.2.2.2.2.2.2.2.2.2.2.2.2.2.2.2.2.2.2.2.2.2.2.2
section
open K_LC2
theorem c_spec_rings : C_spec_rings w p loose mean mg mb news x y t u R dp un gd cn cs a ccd cl outer A₀ base h₀ L m s Q E g' L' h' := by
  unfold C_spec_rings RunD
  dsimp only [fb31]
  k_fill
  intro h h' h2 h3 hRl hR B F X N T hk hdp hun hret FG' F' N' B' X' T'
  (try dsimp only)
  (try dsimp only [List.reverse, List.reverseAux, List.lookup] at F')
  (try k_lift B')
  (try k_fold)
  k_steps
  refine Stop.go ?_
  rename Fr _ _ _ _ => FC
  rename News _ _ _ _ => NC
  refine' ksw_while (σ := Int × Tok × List Value × List Int × Nat) (fun c => (_, W.listOf c.2.2.1.toArray c.2.2.2.2) :: news) (fun c => [(Str.ofString "ring", .int c.1 c.2.1)])
    (fun c => IntsAre c.2.2.1 c.2.2.2.1) [Str.ofString "low", Str.ofString "high"] (fun c => RingsW (1 * 2 ^ x.toNat) R c.1 c.2.2.2.1) (fun c => R.length - c.2.2.2.1.length) (_, _, [], [], 0) FC NC ?hf ?hk ?hp ?turn
  (case hf => exact IntsAre.nil)
  (case hk => exact fun p hp => by rw [List.mem_singleton.mp hp]; rfl)
  (case hp => exact ⟨rfl, hR⟩)
  rintro ⟨r, tr, vs, rings, n⟩ u hD tkD hi hO FD ND
  dsimp only [kstB] at hi hO FD ND
  k_steps
  refine Stop.go ?_
  split
  · rename (decide _ = true) => hc
    obtain ⟨e1, e4, e5, e6, e7⟩ := rings_turn hO (of_decide_eq_true hc)
    have hz := rings_size e1 hi hRl
    k_steps
    refine Stop.go ?_
    rename News _ _ _ _ => NE
    simp only [List.push_toArray] at NE
    refine' ksw_end (_, _, _, _, _) (by k_asm) NE ?hn ?hf ?hk ?hr ?hp ?hm
    walk_at "my:wend"
    (case hf => exact hi.append (IntsAre.cons _ _ IntsAre.nil))
    (case hp => exact rings_step e1)
    (case hm => exact rings_less e1)
  · rename (¬ (decide _ = true)) => hc
    k_steps
    refine' ret_isL ?e0 ?e1 ?e2 ?e3 ?e4 ?e5 ?e6 ?e7
    (case e0 => assumption)
    (case e1 => k_asm)
    (case e2 => k_asm)
    (case e3 => exact List.Mem.head _)
    (case e4 => exact fun _ h => List.Mem.tail _ h)
    (case e5 => assumption)
    (case e6 => exact rings_end hO (fun e => hc (decide_eq_true e)))
    (case e7 => assumption)
end
theorem all_LC2 : ∀ v, VP_LC2 v := k_LC2.2 c_spec_rings
section
variable (w : World) (p : Program) (loose : List Str) (mean : ExcName → Option Value) (mg mb : Str → Option Value)
theorem spec_rings (news : List (Addr × Obj)) (x y : Int) (t u : Tok) (h : 4 ≤ x) (h' : x ≤ 6) (h2 : 2 ≤ y) (h3 : y ≤ 4) (R : List Int) (hRl : R.length ≤ 1000) (hR : ringsOk (1 * 2 ^ x.toNat) (1 * 2 ^ (1 * y).toNat - 1) R) : Spec w p loose mean mg mb 3 news 211 [.int x t, .int y u] [] (isL R news) := by
  refine' spec_body (qual := Str.ofString "_law_rings") (body := fb31.1) (scope := fb31.2) (cdv := .ref 210) (binds := [(Str.ofString "beads", .int x t), (Str.ofString "dark", .int y u)]) (fun z0 z1 z2 z3 z4 z5 z6 z7 z8 z9 z10 z11 z12 z13 z14 z15 z16 z17 z18 z19 => (all_LC2 (w, p, loose, mean, mg, mb, news, x, y, t, u, R, z0, z1, z2, z3, z4, z5, z6, z7, z8, z9, z10, z11, z12, z13, z14, z15, z16, z17, z18, z19)) h h' h2 h3 hRl hR) ?ho ?hcd ?h1 ?hb ?hl ?c1 ?c2 ?c3 ?hc
  (case c1 => exact rfl); (case c2 => exact rfl); (case c3 => exact rfl)
  (case ho => k_is)
  (case hcd => k_is)
  (case h1 => omega)
  (case hb => exact fun _ _ _ _ _ _ => BindsTo.of_eq rfl)
  (case hl => exact locs rfl)
  (case hc => decide)
end
end
end
theorem off_LC2 : True := trivial
-- LM
theorem again_LM : True := by w_top off; (try walk1); trivial
section
theorem two_pos (k : Nat) : (0 : Int) < 2 ^ k := kbt_pos k
theorem fdiv_pow (x : Int) (k : Nat) : x.fdiv (2 ^ k) = x / 2 ^ k := Int.fdiv_eq_ediv_of_nonneg _ (Int.le_of_lt (two_pos k))
theorem band_shift : ∀ (k : Nat) (x y : Int), 0 ≤ y → y < 2 ^ k → Builtin.bitAnd (x * 2 ^ k) y = 0
  | 0, x, y, h0, h1 => by
    have : y = 0 := by rw [Int.pow_zero] at h1; omega
    subst this
    rw [kbt_halves]
    have h2 : Builtin.bitAnd (x * 2 ^ 0 / 2) (0 / 2) = 0 := by
      have := bitAnd_range (x * 2 ^ 0 / 2) (y := 0 / 2) (by decide)
      have e : (0 : Int) / 2 = 0 := by decide
      rw [e] at this ⊢
      omega
    rw [h2]
    simp
  | k + 1, x, y, h0, h1 => by
    rw [kbt_halves]
    have e : x * 2 ^ (k + 1) = 2 * (x * 2 ^ k) := by rw [Int.pow_succ, ← Int.mul_assoc, Int.mul_comm]
    have e1 : x * 2 ^ (k + 1) / 2 = x * 2 ^ k := by rw [e]; omega
    have e2 : x * 2 ^ (k + 1) % 2 = 0 := by rw [e]; omega
    have h2 : y / 2 < 2 ^ k := by
      have : (2 : Int) ^ (k + 1) = 2 * 2 ^ k := by rw [Int.pow_succ, Int.mul_comm]
      omega
    rw [e1, e2, band_shift k x (y / 2) (by omega) h2]
    simp
theorem bor_eq (x y : Int) : Builtin.bitOr x y = x + y - Builtin.bitAnd x y := by
  have := bitXor_and x y
  have e : Builtin.bitXor x y = Builtin.bitOr x y - Builtin.bitAnd x y := rfl
  omega
theorem bor_add {k : Nat} {x y : Int} (h0 : 0 ≤ y) (h1 : y < 2 ^ k) : Builtin.bitOr (x * 2 ^ k) y = x * 2 ^ k + y := by
  rw [bor_eq, band_shift k x y h0 h1]; omega
theorem band_self (x : Int) : Builtin.bitAnd x x = x := by
  have := bitXor_and x x
  rw [bitXor_self] at this
  omega
theorem band_high : ∀ (k : Nat) (x : Int), Builtin.bitAnd x (x / 2 ^ k * 2 ^ k) = x / 2 ^ k * 2 ^ k
  | 0, x => by simp [band_self]
  | k + 1, x => by
    rw [kbt_halves]
    have e : x / 2 ^ (k + 1) * 2 ^ (k + 1) = 2 * (x / 2 ^ (k + 1) * 2 ^ k) := by rw [Int.pow_succ (2 : Int) k, ← Int.mul_assoc]; exact Int.mul_comm _ _
    have e1 : x / 2 ^ (k + 1) * 2 ^ (k + 1) / 2 = x / 2 / 2 ^ k * 2 ^ k := by
      rw [e]
      have : x / 2 ^ (k + 1) = x / 2 / 2 ^ k := by
        rw [Int.pow_succ (2 : Int) k, Int.mul_comm, ← Int.ediv_ediv_of_nonneg (by decide)]
      rw [this]; omega
    have e2 : x / 2 ^ (k + 1) * 2 ^ (k + 1) % 2 = 0 := by rw [e]; omega
    rw [e1, e2, band_high k (x / 2)]
    have e3 : x / 2 ^ (k + 1) = x / 2 / 2 ^ k := by
        rw [Int.pow_succ (2 : Int) k, Int.mul_comm, ← Int.ediv_ediv_of_nonneg (by decide)]
    rw [e, e3]
    simp
theorem bxor_low (k : Nat) (x : Int) : Builtin.bitXor x (x / 2 ^ k * 2 ^ k) = x % 2 ^ k := by
  rw [bitXor_and, band_high]
  have := Int.emod_add_mul_ediv x (2 ^ k)
  rw [Int.mul_comm] at this
  omega
theorem bits_of_lt {x : Int} {m : Nat} (h0 : 0 ≤ x) (h1 : x < 2 ^ m) : Builtin.Int.intBits x ≤ m := by
  refine PyProof.Rows.intBits_le ?_
  have : ((x.natAbs : Nat) : Int) < ((2 ^ m : Nat) : Int) := by rw [kbt_cast]; omega
  exact Int.ofNat_lt.mp this
theorem pow_mono {a b : Nat} (h : a ≤ b) : (2 : Int) ^ a ≤ 2 ^ b := by
  rw [← kbt_cast, ← kbt_cast]
  exact Int.ofNat_le.mpr (Nat.pow_le_pow_right (by decide) h)
end
-- LM3
theorem again_LM3 : True := by w_top off; (try walk1); trivial
section
theorem bits_sh {x n : Int} {M : Nat} (h0 : 0 ≤ x) (h1 : x < 2 ^ M) (hM : M ≤ 60000000) (hn : n ≤ 60000000) : (Builtin.Int.intBits x : Int) + n ≤ 2 ^ 27 := by
  have := bits_of_lt h0 h1
  omega
theorem mul_ok {x y : Int} {M N : Nat} (h0 : 0 ≤ x) (h1 : x < 2 ^ M) (h2 : 0 ≤ y) (h3 : y < 2 ^ N) (h : M + N ≤ 134217728) : IntMulOk x y := IntMulOk.of_le (bits_of_lt h0 h1) (bits_of_lt h2 h3) h
structure Pre3 (x y b b1 b2 n : Int) : Prop where
  x0 : 0 ≤ x
  y0 : 0 ≤ y
  y1 : y < 2 ^ n.toNat
  eb : b = b1 * 2 ^ n.toNat + b2
  b10 : 0 ≤ b1
  b11 : b1 < 2 ^ n.toNat
  b20 : 0 ≤ b2
  b21 : b2 < 2 ^ n.toNat
  n0 : 0 ≤ n
  n1 : n ≤ 20000
  lt : x * 2 ^ n.toNat + y < b * 2 ^ n.toNat
  bp : 0 < b
theorem mul_lt_cancel {x b P : Int} (hP : 0 < P) (h : x * P < b * P) : x < b := Int.lt_of_mul_lt_mul_right h (Int.le_of_lt hP)
theorem mul_le_mono {x b P : Int} (hP : 0 ≤ P) (h : x ≤ b) : x * P ≤ b * P := Int.mul_le_mul_of_nonneg_right h hP
section
variable {x y b b1 b2 n : Int}
theorem Pre3.xb (h : Pre3 x y b b1 b2 n) : x < b := mul_lt_cancel (two_pos n.toNat) (by have := h.lt; have := h.y0; omega)
theorem Pre3.bP (h : Pre3 x y b b1 b2 n) : b < 2 ^ (n.toNat + n.toNat) := by
  have e := h.eb; have h1 := h.b11; have h2 := h.b21
  have h3 := two_pos n.toNat
  rw [Int.pow_add]
  generalize (2 : Int) ^ n.toNat = P at *
  have h4 := mul_le_mono (Int.le_of_lt h3) (x := b1) (b := P - 1) (by omega)
  rw [Int.sub_mul] at h4
  omega
theorem Pre3.sh1 (h : Pre3 x y b b1 b2 n) : (Builtin.Int.intBits b1 : Int) + n ≤ 2 ^ 27 := bits_sh h.b10 h.b11 (by have := h.n1; omega) (by have := h.n1; omega)
theorem Pre3.sh2 (h : Pre3 x y b b1 b2 n) : (Builtin.Int.intBits 1 : Int) + n ≤ 2 ^ 27 := bits_sh (M := 1) (by decide) (by decide) (by decide) (by have := h.n1; omega)
theorem Pre3.mul1 (h : Pre3 x y b b1 b2 n) : IntMulOk (1 * 2 ^ n.toNat - 1) b2 :=
  mul_ok (M := n.toNat) (N := n.toNat) (by have := two_pos n.toNat; omega) (by omega) h.b20 h.b21 (by have := h.n1; omega)
theorem Pre3.quot (h : Pre3 x y b b1 b2 n) : x.fdiv (2 ^ n.toNat) ≤ b1 := by
  rw [fdiv_pow]
  have h1 := h.xb; have e := h.eb; have h2 := h.b21
  have h3 := two_pos n.toNat
  refine Int.le_of_lt_add_one (Int.ediv_lt_of_lt_mul h3 ?_)
  rw [Int.add_mul]; omega
theorem Pre3.eqv (h : Pre3 x y b b1 b2 n) (e : x.fdiv (2 ^ n.toNat) = b1) : 0 ≤ x - b1 * 2 ^ n.toNat ∧ x - b1 * 2 ^ n.toNat < 2 ^ n.toNat := by
  rw [fdiv_pow] at e
  have h3 := two_pos n.toNat
  have h1 := Int.emod_add_mul_ediv x (2 ^ n.toNat)
  rw [e, Int.mul_comm] at h1
  have h4 := Int.emod_nonneg x (Int.ne_of_gt h3)
  have h5 := Int.emod_lt_of_pos x h3
  omega
theorem Pre3.sh3 (h : Pre3 x y b b1 b2 n) (e : x.fdiv (2 ^ n.toNat) = b1) : (Builtin.Int.intBits (x - b1 * 2 ^ n.toNat + b1) : Int) + n ≤ 2 ^ 27 := by
  have h1 := h.eqv e
  have h2 := h.b10; have h3 := h.b11
  refine bits_sh (M := n.toNat + 1) (by omega) (by rw [Int.pow_succ]; omega) (by have := h.n1; omega) (by have := h.n1; omega)
structure D3W (X b q r : Int) : Prop where
  eq : X = q * b + r
  lt : r < b
  bp : 0 < b
theorem Pre3.true (h : Pre3 x y b b1 b2 n) (e : x.fdiv (2 ^ n.toNat) = b1) : D3W (x * 2 ^ n.toNat + y) b (1 * 2 ^ n.toNat - 1) (Builtin.bitOr ((x - b1 * 2 ^ n.toNat + b1) * 2 ^ n.toNat) y - (1 * 2 ^ n.toNat - 1) * b2) := by
  rw [bor_add h.y0 h.y1]
  have e1 := h.eb; have h1 := h.lt; have h2 := h.bp
  generalize (2 : Int) ^ n.toNat = P at *
  have key : x * P + y = (1 * P - 1) * b + ((x - b1 * P + b1) * P + y - (1 * P - 1) * b2) := by
    subst e1
    grind
  refine ⟨key, ?_, h2⟩
  have e2 : (1 * P - 1) * b = b * P - b := by grind
  omega
theorem Pre3.false (h : Pre3 x y b b1 b2 n) {q z : Int} (e : x = q * b1 + z) (h0 : 0 ≤ z) (h1 : z < b1) (hq : 0 ≤ q) : D3W (x * 2 ^ n.toNat + y) b q (Builtin.bitOr (z * 2 ^ n.toNat) y - q * b2) := by
  rw [bor_add h.y0 h.y1]
  have e1 := h.eb; have h2 := h.bp; have h3 := h.y1; have h4 := h.b20
  have h5 := two_pos n.toNat
  generalize (2 : Int) ^ n.toNat = P at *
  have key : x * P + y = q * b + (z * P + y - q * b2) := by
    subst e1; subst e
    grind
  refine ⟨key, ?_, h2⟩
  have h6 : (z + 1) * P ≤ b1 * P := mul_le_mono (Int.le_of_lt h5) (by omega)
  rw [Int.add_mul] at h6
  have h7 : 0 ≤ q * b2 := Int.mul_nonneg hq h4
  omega
theorem Pre3.qnn {q z : Int} (h : Pre3 x y b b1 b2 n) (e : x = q * b1 + z) (h0 : 0 ≤ z) (h1 : z < b1) : 0 ≤ q := by
  have hx := h.x0
  have h2 : 0 < b1 := by omega
  refine Int.le_of_lt_add_one ?_
  have h3 : 0 * b1 < (q + 1) * b1 := by rw [Int.add_mul]; omega
  exact mul_lt_cancel h2 h3
theorem Pre3.ne (h : Pre3 x y b b1 b2 n) (e : ¬ x.fdiv (2 ^ n.toNat) = b1) : 0 < b1 ∧ x < b1 * 2 ^ n.toNat := by
  have h1 := h.quot
  have h2 : x.fdiv (2 ^ n.toNat) < b1 := by omega
  rw [fdiv_pow] at h2
  have h3 := two_pos n.toNat
  have h4 := Int.emod_add_mul_ediv x (2 ^ n.toNat)
  have h5 := Int.emod_lt_of_pos x h3
  have h6 := Int.ediv_nonneg h.x0 (Int.le_of_lt h3)
  refine ⟨by omega, ?_⟩
  have h7 : (x / 2 ^ n.toNat + 1) * 2 ^ n.toNat ≤ b1 * 2 ^ n.toNat := mul_le_mono (Int.le_of_lt h3) (by omega)
  rw [Int.add_mul, Int.mul_comm] at h7
  omega
theorem Pre3.qlt {q z : Int} (h : Pre3 x y b b1 b2 n) (hx : x < b1 * 2 ^ n.toNat) (e : x = q * b1 + z) (h0 : 0 ≤ z) (h1 : z < b1) : q < 2 ^ n.toNat := by
  have h2 : 0 < b1 := by omega
  refine mul_lt_cancel h2 ?_
  rw [Int.mul_comm (2 ^ n.toNat) b1]
  omega
theorem Pre3.mul2 {q z : Int} (h : Pre3 x y b b1 b2 n) (hx : x < b1 * 2 ^ n.toNat) (e : x = q * b1 + z) (h0 : 0 ≤ z) (h1 : z < b1) : IntMulOk q b2 :=
  mul_ok (M := n.toNat) (N := n.toNat) (h.qnn e h0 h1) (h.qlt hx e h0 h1) h.b20 h.b21 (by have := h.n1; omega)
theorem Pre3.sh4 {z : Int} (h : Pre3 x y b b1 b2 n) (h0 : 0 ≤ z) (h1 : z < b1) : (Builtin.Int.intBits z : Int) + n ≤ 2 ^ 27 :=
  bits_sh (M := n.toNat) h0 (by have := h.b11; omega) (by have := h.n1; omega) (by have := h.n1; omega)
theorem D3W.step {X b q r : Int} (h : D3W X b q r) (hr : r < 0) : D3W X b (q - 1) (r + b) := by
  have e := h.eq; have h2 := h.bp
  refine ⟨?_, by omega, h2⟩
  rw [Int.sub_mul]; omega
theorem D3W.less {X b q r : Int} (h : D3W X b q r) (hr : r < 0) : (-(r + b)).toNat < (-r).toNat := by
  have h2 := h.bp
  omega
end
end
-- LC3
theorem again_LC3 : True := by w_top off; (try walk1); trivial
section
def isD (x b : Int) (news : List (Addr × Obj)) (r : Value) (nw : List (Addr × Obj)) : Prop :=
  ∃ q z l t u, r = .ref l ∧ x = q * b + z ∧ 0 ≤ z ∧ z < b ∧ nw = (l, tup2 q z t u) :: news ∧ ∀ p ∈ news, p.1 < l
theorem ret_isD {h₀ h' : Heap} {L l : Addr} {m : Str → Option Value} {news nw : List (Addr × Obj)} {s : Shared} {Q : Value → Shared → Prop} {x b q z : Int} {t u : Tok} {tk' : Nat}
    (hret : ∀ r news' h' tk', Fr h₀ L h' m → News h₀ L h' news' → isD x b news r news' → Q r { s with heap := h', toks := tk' }) (F : Fr h₀ L h' m) (N : News h₀ L h' nw) (hm : (l, tup2 q z t u) ∈ nw) (hs : ∀ p ∈ news, p ∈ nw)
    (e1 : x = q * b + z) (e2 : 0 ≤ z) (e3 : z < b) (hl : ∀ q ∈ news, q.1 < l) : Q (.ref l) { s with heap := h', toks := tk' } := by
  refine hret _ ((l, tup2 q z t u) :: news) h' tk' F (fun p hp => N p ?_) ⟨q, z, l, t, u, rfl, e1, e2, e3, rfl, hl⟩
  rcases List.mem_cons.mp hp with rfl | hp
  · exact hm
  · exact hs p hp
section
variable {w : World} {p : Program} {loose : List Str} {mean : ExcName → Option Value} {mg mb : Str → Option Value} {need : Nat} {news news' : List (Addr × Obj)} {f : Addr} {vs : List Value} {kw : List (Str × Value)}
    {dp un : Nat} {gd : Option (List Code)} {cn : Str} {cs : Scope} {a : Addr} {ccd : Value} {cl : List (Str × Addr)} {outer : List Env} {A₀ : Around} {base h₀ : Heap} {L : Addr} {m : Str → Option Value} {s : Shared} {Q E : Value → Shared → Prop}
theorem Spec.useD {x b : Int} (S : Spec w p loose mean mg mb need news f vs kw (isD x b news))
    (B : Below A₀ base outer h₀) (F : Fr h₀ L s.heap m) (X : (hd.heap_39 w.params).In h₀) (N : News h₀ L s.heap news) (T : Top p loose mean mg mb h₀) (hk : cs.kind = .function) (hd : dp + need < recursionLimit) (hu : un + 8 * need < cLine)
    (ret : ∀ q z l t u h' tk', Fr h₀ L h' m → News h₀ L h' ((l, tup2 q z t u) :: news) → x = q * b + z → 0 ≤ z → z < b → (∀ p ∈ news, p.1 < l) → Q (.ref l) { s with heap := h', toks := tk' }) :
    wpAny (model PySem.Challenge.rw_tl0033_01.row.prog w) (ktrTop dp un gd cn cs L a ccd cl outer) (call (.ref f) vs kw) Q E s :=
  S.use B F X N T hk hd hu fun r nw h' tk' F' N' P => by
    obtain ⟨q, z, l, t, u, rfl, e1, e2, e3, rfl, hl⟩ := P
    exact ret q z l t u h' tk' F' N' e1 e2 e3 hl
end
section
theorem lay_5 : True := by
  k_with "my:lt" => first
      | assumption
      | exact ktn_ltOf (by assumption)
      | exact ktn_ltOf (And.right (by assumption))
      | exact ktn_ltOf (And.right (And.right (by assumption)))
      | exact ktn_ltOf (And.right (And.right (And.right (by assumption))))
      | exact ktn_ltOf (And.right (And.right (And.right (And.right (by assumption)))))
  k_with "my:sub" => first
      | exact fun _ h => h
      | exact fun _ h => List.Mem.tail _ h
      | exact fun _ h => List.Mem.tail _ (List.Mem.tail _ h)
      | exact fun _ h => List.Mem.tail _ (List.Mem.tail _ (List.Mem.tail _ h))
      | exact fun _ h => List.Mem.tail _ (List.Mem.tail _ (List.Mem.tail _ (List.Mem.tail _ h)))
      | exact fun _ h => List.Mem.tail _ (List.Mem.tail _ (List.Mem.tail _ (List.Mem.tail _ (List.Mem.tail _ h))))
      | kcj_all
  k_with "binaryOp RShift int int" => (refine rshift_int (by walk_at "my:fact") ?_)
  k_with "binaryOp LShift int int" => (refine lshift_int (by walk_at "my:fact") (by walk_at "my:bits") ?_)
  k_with "inplaceOp RShift int int" => (refine irshift_int (by walk_at "my:fact") ?_)
  k_with "inplaceOp LShift int int" => (refine ilshift_int (by walk_at "my:fact") (by walk_at "my:bits") ?_)
  k_with "binaryOp Mult int int" => (refine PyProof.Rows.mul_int ?_ (by walk_at "my:mul"))
  k_with "exec While Compare cons nil" => ((fail_if_success (have z9 := off_LC3)); (refine stop_here ?_))
  k_with "KswEnd" => ((fail_if_success (have z9 := off_LC3)); (refine stop_here ?_))
  k_with "ite" => ((fail_if_success (have z9 := off_LC3)); (refine stop_here ?_))
  k_with "call ref" => ((fail_if_success (have z9 := off_LC3)); (k_here; (with_reducible show wpAny _ _ (call (Value.ref 21) _ _) _ _ _); refine stop_here ?_))
  trivial
def C_spec_d3 (w : World) (p : Program) (loose : List Str) (mean : ExcName → Option Value) (mg : Str → Option Value) (mb : Str → Option Value) (nd : Nat) (lim : Int) (news : List (Addr × Obj)) (x : Int) (y : Int) (b : Int) (b1 : Int) (b2 : Int) (n : Int) (t1 : Tok) (t2 : Tok) (t3 : Tok) (t4 : Tok) (t5 : Tok) (t6 : Tok) (dp : Nat) (un : Nat) (gd : Option (List Code)) (cn : Str) (cs : Scope) (a : Addr) (ccd : Value) (cl : List (Str × Addr)) (outer : List Env) (A₀ : Around) (base : Heap) (h₀ : Heap) (L : Addr) (m : Str → Option Value) (s : Shared) (Q : Value → Shared → Prop) (E : Value → Shared → Prop) (g' : Heap) (L' : Addr) (h' : Heap) : Prop :=
  (∀ (news : List (Addr × Obj)) (a b n : Int) (t1 t2 t3 : Tok), 0 ≤ a → 0 < b → b < 2 ^ n.toNat → a < b * 2 ^ n.toNat → 0 ≤ n → n ≤ lim → n ≤ 20000 → Spec w p loose mean mg mb nd news 21 [.int a t1, .int b t2, .int n t3] [] (isD a b news)) →
  (Pre3 x y b b1 b2 n) →
  (n ≤ lim) →
  RunD w p loose mean mg mb (nd + 2) news 28 (isD (x * 2 ^ n.toNat + y) b news) (Str.ofString "_div3n2n") fb3.1 fb3.2 (.ref 27) [(Str.ofString "a12", .int x t1), (Str.ofString "a3", .int y t2), (Str.ofString "b", .int b t3), (Str.ofString "b1", .int b1 t4), (Str.ofString "b2", .int b2 t5), (Str.ofString "n", .int n t6)] dp un gd cn cs a ccd cl outer A₀ base h₀ L m s Q E g' L' h'
abbrev V_LC3 := (World) × (Program) × (List Str) × (ExcName → Option Value) × (Str → Option Value) × (Str → Option Value) × (Nat) × (Int) × (List (Addr × Obj)) × (Int) × (Int) × (Int) × (Int) × (Int) × (Int) × (Tok) × (Tok) × (Tok) × (Tok) × (Tok) × (Tok) × (Nat) × (Nat) × (Option (List Code)) × (Str) × (Scope) × (Addr) × (Value) × (List (Str × Addr)) × (List Env) × (Around) × (Heap) × (Heap) × (Addr) × (Str → Option Value) × (Shared) × (Value → Shared → Prop) × (Value → Shared → Prop) × (Heap) × (Addr) × (Heap)
def D_spec_d3 (v : V_LC3) : Prop := C_spec_d3 v.1 v.2.1 v.2.2.1 v.2.2.2.1 v.2.2.2.2.1 v.2.2.2.2.2.1 v.2.2.2.2.2.2.1 v.2.2.2.2.2.2.2.1 v.2.2.2.2.2.2.2.2.1 v.2.2.2.2.2.2.2.2.2.1 v.2.2.2.2.2.2.2.2.2.2.1 v.2.2.2.2.2.2.2.2.2.2.2.1 v.2.2.2.2.2.2.2.2.2.2.2.2.1 v.2.2.2.2.2.2.2.2.2.2.2.2.2.1 v.2.2.2.2.2.2.2.2.2.2.2.2.2.2.1 v.2.2.2.2.2.2.2.2.2.2.2.2.2.2.2.1 v.2.2.2.2.2.2.2.2.2.2.2.2.2.2.2.2.1 v.2.2.2.2.2.2.2.2.2.2.2.2.2.2.2.2.2.1 v.2.2.2.2.2.2.2.2.2.2.2.2.2.2.2.2.2.2.1 v.2.2.2.2.2.2.2.2.2.2.2.2.2.2.2.2.2.2.2.1 v.2.2.2.2.2.2.2.2.2.2.2.2.2.2.2.2.2.2.2.2.1 v.2.2.2.2.2.2.2.2.2.2.2.2.2.2.2.2.2.2.2.2.2.1 v.2.2.2.2.2.2.2.2.2.2.2.2.2.2.2.2.2.2.2.2.2.2.1 v.2.2.2.2.2.2.2.2.2.2.2.2.2.2.2.2.2.2.2.2.2.2.2.1 v.2.2.2.2.2.2.2.2.2.2.2.2.2.2.2.2.2.2.2.2.2.2.2.2.1 v.2.2.2.2.2.2.2.2.2.2.2.2.2.2.2.2.2.2.2.2.2.2.2.2.2.1 v.2.2.2.2.2.2.2.2.2.2.2.2.2.2.2.2.2.2.2.2.2.2.2.2.2.2.1 v.2.2.2.2.2.2.2.2.2.2.2.2.2.2.2.2.2.2.2.2.2.2.2.2.2.2.2.1 v.2.2.2.2.2.2.2.2.2.2.2.2.2.2.2.2.2.2.2.2.2.2.2.2.2.2.2.2.1 v.2.2.2.2.2.2.2.2.2.2.2.2.2.2.2.2.2.2.2.2.2.2.2.2.2.2.2.2.2.1 v.2.2.2.2.2.2.2.2.2.2.2.2.2.2.2.2.2.2.2.2.2.2.2.2.2.2.2.2.2.2.1 v.2.2.2.2.2.2.2.2.2.2.2.2.2.2.2.2.2.2.2.2.2.2.2.2.2.2.2.2.2.2.2.1 v.2.2.2.2.2.2.2.2.2.2.2.2.2.2.2.2.2.2.2.2.2.2.2.2.2.2.2.2.2.2.2.2.1 v.2.2.2.2.2.2.2.2.2.2.2.2.2.2.2.2.2.2.2.2.2.2.2.2.2.2.2.2.2.2.2.2.2.1 v.2.2.2.2.2.2.2.2.2.2.2.2.2.2.2.2.2.2.2.2.2.2.2.2.2.2.2.2.2.2.2.2.2.2.1 v.2.2.2.2.2.2.2.2.2.2.2.2.2.2.2.2.2.2.2.2.2.2.2.2.2.2.2.2.2.2.2.2.2.2.2.1 v.2.2.2.2.2.2.2.2.2.2.2.2.2.2.2.2.2.2.2.2.2.2.2.2.2.2.2.2.2.2.2.2.2.2.2.2.1 v.2.2.2.2.2.2.2.2.2.2.2.2.2.2.2.2.2.2.2.2.2.2.2.2.2.2.2.2.2.2.2.2.2.2.2.2.2.1 v.2.2.2.2.2.2.2.2.2.2.2.2.2.2.2.2.2.2.2.2.2.2.2.2.2.2.2.2.2.2.2.2.2.2.2.2.2.2.1 v.2.2.2.2.2.2.2.2.2.2.2.2.2.2.2.2.2.2.2.2.2.2.2.2.2.2.2.2.2.2.2.2.2.2.2.2.2.2.2.1 v.2.2.2.2.2.2.2.2.2.2.2.2.2.2.2.2.2.2.2.2.2.2.2.2.2.2.2.2.2.2.2.2.2.2.2.2.2.2.2.2
def VP_LC3 (v : V_LC3) : Prop := D_spec_d3 v
theorem ne_LC3 : Nonempty V_LC3 := ⟨((⟨fun _ _ => 0, { strHash := fun _ => 0, shareClass := fun _ => 0, mergeTok := id, idOf := fun _ => 0, idOfShared := fun _ _ => 0, followText := fun _ => false, idOfImm := fun _ => 0 }⟩ : World), (default : Program), ([] : List Str), (fun _  => none), (fun _  => none), (fun _  => none), (0 : Nat), (0 : Int), ([] : List (Addr × Obj)), (0 : Int), (0 : Int), (0 : Int), (0 : Int), (0 : Int), (0 : Int), (0 : Tok), (0 : Tok), (0 : Tok), (0 : Tok), (0 : Tok), (0 : Tok), (0 : Nat), (0 : Nat), (none : Option (List Code)), (Str.empty : Str), (default : Scope), (0 : Addr), (.none : Value), ([] : List (Str × Addr)), ([] : List Env), ({} : Around), ({} : Heap), ({} : Heap), (0 : Addr), (fun _  => none), ({} : Shared), (fun _ _  => True), (fun _ _  => True), ({} : Heap), (0 : Addr), ({} : Heap))⟩
noncomputable def k_LC3 : {v : V_LC3 // VP_LC3 v → ∀ x, VP_LC3 x} := Classical.choice (drink ne_LC3 VP_LC3)
noncomputable def K_LC3.w : World := k_LC3.1.1
noncomputable def K_LC3.p : Program := k_LC3.1.2.1
noncomputable def K_LC3.loose : List Str := k_LC3.1.2.2.1
noncomputable def K_LC3.mean : ExcName → Option Value := k_LC3.1.2.2.2.1
noncomputable def K_LC3.mg : Str → Option Value := k_LC3.1.2.2.2.2.1
noncomputable def K_LC3.mb : Str → Option Value := k_LC3.1.2.2.2.2.2.1
noncomputable def K_LC3.nd : Nat := k_LC3.1.2.2.2.2.2.2.1
noncomputable def K_LC3.lim : Int := k_LC3.1.2.2.2.2.2.2.2.1
noncomputable def K_LC3.news : List (Addr × Obj) := k_LC3.1.2.2.2.2.2.2.2.2.1
noncomputable def K_LC3.x : Int := k_LC3.1.2.2.2.2.2.2.2.2.2.1
noncomputable def K_LC3.y : Int := k_LC3.1.2.2.2.2.2.2.2.2.2.2.1
noncomputable def K_LC3.b : Int := k_LC3.1.2.2.2.2.2.2.2.2.2.2.2.1
noncomputable def K_LC3.b1 : Int := k_LC3.1.2.2.2.2.2.2.2.2.2.2.2.2.1
noncomputable def K_LC3.b2 : Int := k_LC3.1.2.2.2.2.2.2.2.2.2.2.2.2.2.1
noncomputable def K_LC3.n : Int := k_LC3.1.2.2.2.2.2.2.2.2.2.2.2.2.2.2.1
noncomputable def K_LC3.t1 : Tok := k_LC3.1.2.2.2.2.2.2.2.2.2.2.2.2.2.2.2.1
noncomputable def K_LC3.t2 : Tok := k_LC3.1.2.2.2.2.2.2.2.2.2.2.2.2.2.2.2.2.1
noncomputable def K_LC3.t3 : Tok := k_LC3.1.2.2.2.2.2.2.2.2.2.2.2.2.2.2.2.2.2.1
noncomputable def K_LC3.t4 : Tok := k_LC3.1.2.2.2.2.2.2.2.2.2.2.2.2.2.2.2.2.2.2.1
noncomputable def K_LC3.t5 : Tok := k_LC3.1.2.2.2.2.2.2.2.2.2.2.2.2.2.2.2.2.2.2.2.1
noncomputable def K_LC3.t6 : Tok := k_LC3.1.2.2.2.2.2.2.2.2.2.2.2.2.2.2.2.2.2.2.2.2.1
noncomputable def K_LC3.dp : Nat := k_LC3.1.2.2.2.2.2.2.2.2.2.2.2.2.2.2.2.2.2.2.2.2.2.1
noncomputable def K_LC3.un : Nat := k_LC3.1.2.2.2.2.2.2.2.2.2.2.2.2.2.2.2.2.2.2.2.2.2.2.1
noncomputable def K_LC3.gd : Option (List Code) := k_LC3.1.2.2.2.2.2.2.2.2.2.2.2.2.2.2.2.2.2.2.2.2.2.2.2.1
noncomputable def K_LC3.cn : Str := k_LC3.1.2.2.2.2.2.2.2.2.2.2.2.2.2.2.2.2.2.2.2.2.2.2.2.2.1
noncomputable def K_LC3.cs : Scope := k_LC3.1.2.2.2.2.2.2.2.2.2.2.2.2.2.2.2.2.2.2.2.2.2.2.2.2.2.1
noncomputable def K_LC3.a : Addr := k_LC3.1.2.2.2.2.2.2.2.2.2.2.2.2.2.2.2.2.2.2.2.2.2.2.2.2.2.2.1
noncomputable def K_LC3.ccd : Value := k_LC3.1.2.2.2.2.2.2.2.2.2.2.2.2.2.2.2.2.2.2.2.2.2.2.2.2.2.2.2.1
noncomputable def K_LC3.cl : List (Str × Addr) := k_LC3.1.2.2.2.2.2.2.2.2.2.2.2.2.2.2.2.2.2.2.2.2.2.2.2.2.2.2.2.2.1
noncomputable def K_LC3.outer : List Env := k_LC3.1.2.2.2.2.2.2.2.2.2.2.2.2.2.2.2.2.2.2.2.2.2.2.2.2.2.2.2.2.2.1
noncomputable def K_LC3.A₀ : Around := k_LC3.1.2.2.2.2.2.2.2.2.2.2.2.2.2.2.2.2.2.2.2.2.2.2.2.2.2.2.2.2.2.2.1
noncomputable def K_LC3.base : Heap := k_LC3.1.2.2.2.2.2.2.2.2.2.2.2.2.2.2.2.2.2.2.2.2.2.2.2.2.2.2.2.2.2.2.2.1
noncomputable def K_LC3.h₀ : Heap := k_LC3.1.2.2.2.2.2.2.2.2.2.2.2.2.2.2.2.2.2.2.2.2.2.2.2.2.2.2.2.2.2.2.2.2.1
noncomputable def K_LC3.L : Addr := k_LC3.1.2.2.2.2.2.2.2.2.2.2.2.2.2.2.2.2.2.2.2.2.2.2.2.2.2.2.2.2.2.2.2.2.2.1
noncomputable def K_LC3.m : Str → Option Value := k_LC3.1.2.2.2.2.2.2.2.2.2.2.2.2.2.2.2.2.2.2.2.2.2.2.2.2.2.2.2.2.2.2.2.2.2.2.1
noncomputable def K_LC3.s : Shared := k_LC3.1.2.2.2.2.2.2.2.2.2.2.2.2.2.2.2.2.2.2.2.2.2.2.2.2.2.2.2.2.2.2.2.2.2.2.2.1
noncomputable def K_LC3.Q : Value → Shared → Prop := k_LC3.1.2.2.2.2.2.2.2.2.2.2.2.2.2.2.2.2.2.2.2.2.2.2.2.2.2.2.2.2.2.2.2.2.2.2.2.2.1
noncomputable def K_LC3.E : Value → Shared → Prop := k_LC3.1.2.2.2.2.2.2.2.2.2.2.2.2.2.2.2.2.2.2.2.2.2.2.2.2.2.2.2.2.2.2.2.2.2.2.2.2.2.1
noncomputable def K_LC3.g' : Heap := k_LC3.1.2.2.2.2.2.2.2.2.2.2.2.2.2.2.2.2.2.2.2.2.2.2.2.2.2.2.2.2.2.2.2.2.2.2.2.2.2.2.1
noncomputable def K_LC3.L' : Addr := k_LC3.1.2.2.2.2.2.2.2.2.2.2.2.2.2.2.2.2.2.2.2.2.2.2.2.2.2.2.2.2.2.2.2.2.2.2.2.2.2.2.2.1
noncomputable def K_LC3.h' : Heap := k_LC3.1.2.2.2.2.2.2.2.2.2.2.2.2.2.2.2.2.2.2.2.2.2.2.2.2.2.2.2.2.2.2.2.2.2.2.2.2.2.2.2.2
section
open K_LC3
theorem c_spec_d3 : C_spec_d3 w p loose mean mg mb nd lim news x y b b1 b2 n t1 t2 t3 t4 t5 t6 dp un gd cn cs a ccd cl outer A₀ base h₀ L m s Q E g' L' h' := by
  unfold C_spec_d3 RunD
  dsimp only [fb3]
  k_fill
  intro ih H hlim B F X N T hk hdp hun hret FG' F' N' B' X' T'
  (try dsimp only)
  (try dsimp only [List.reverse, List.reverseAux, List.lookup] at F')
  (try k_lift B')
  (try k_fold)
  have hn0 := H.n0
  have hs1 := H.sh1
  have hs2 := H.sh2
  have hm1 := H.mul1
  k_steps
  refine Stop.go ?_
  split
  · rename ((_ == _) = true) => hq
    have e := eq_of_beq hq
    have hs3 := H.sh3 e
    k_steps
    refine Stop.go ?_
    rename Fr _ _ _ _ => FC
    rename News _ _ _ _ => NC
    refine' ksw_while (σ := Int × Tok × Int × Tok) (fun _ => _) (fun c => [(Str.ofString "q", .int c.1 c.2.1), (Str.ofString "r", .int c.2.2.1 c.2.2.2)])
      (fun _ => True) [] (fun c => D3W (x * 2 ^ n.toNat + y) b c.1 c.2.2.1) (fun c => (-c.2.2.1).toNat) (_, _, _, _) FC NC trivial ?hk ?hp ?_
    (case hk => kst_all)
    (case hp => exact H.true e)
    rintro ⟨q8, tq, r8, tr⟩ u8 hD tkD _ hO FD ND
    dsimp only [kstB] at hO FD ND
    k_steps
    refine Stop.go ?_
    split
    · rename (decide _ = true) => hc
      k_steps
      refine Stop.go ?_
      refine' ksw_end (_, _, _, _) (by k_asm) (by k_asm) ?hn trivial ?hk ?hr ?hp ?hm
      walk_at "my:wend"
      (case hp => exact hO.step (of_decide_eq_true hc))
      (case hm => exact hO.less (of_decide_eq_true hc))
    · rename (¬ (decide _ = true)) => hc
      have hc' := fun e => hc (decide_eq_true e)
      k_steps
      refine' ret_isD ?e0 ?e1 ?e2 ?e3 ?e4 hO.eq (Int.not_lt.mp hc') hO.lt ?e5
      (case e0 => assumption)
      (case e1 => k_asm)
      (case e2 => k_asm)
      (case e3 => exact List.Mem.head _)
      (case e4 => walk_at "my:sub")
      (case e5 => walk_at "my:lt")
  · rename (¬ ((_ == _) = true)) => hq
    have e : ¬ x.fdiv (2 ^ n.toNat) = b1 := fun e => hq (beq_iff_eq.mpr e)
    obtain ⟨hb1, hx1⟩ := H.ne e
    k_steps
    refine Stop.go ?_
    k_dflt (refine' Spec.useD (ih _ _ _ _ _ _ _ H.x0 hb1 H.b11 hx1 H.n0 hlim H.n1) ?k1 ?k2 ?k3 ?k4 ?k5 ?kK ?kd ?ku ?_)
    walk_at "my:use"
    intro q0 z0 l0 tq0 tz0 h0 tk0 F0 N0 eq0 z00 z01 lt0
    (try dsimp only)
    have hs4 := H.sh4 z00 z01
    have hm2 := H.mul2 hx1 eq0 z00 z01
    k_steps
    refine Stop.go ?_
    rename Fr _ _ _ _ => FC
    rename News _ _ _ _ => NC
    refine' ksw_while (σ := Int × Tok × Int × Tok) (fun _ => _) (fun c => [(Str.ofString "q", .int c.1 c.2.1), (Str.ofString "r", .int c.2.2.1 c.2.2.2)])
      (fun _ => True) [] (fun c => D3W (x * 2 ^ n.toNat + y) b c.1 c.2.2.1) (fun c => (-c.2.2.1).toNat) (_, _, _, _) FC NC trivial ?hk ?hp ?_
    (case hk => kst_all)
    (case hp => exact H.false eq0 z00 z01 (H.qnn eq0 z00 z01))
    rintro ⟨q8, tq, r8, tr⟩ u8 hD tkD _ hO FD ND
    dsimp only [kstB] at hO FD ND
    k_steps
    refine Stop.go ?_
    split
    · rename (decide _ = true) => hc
      k_steps
      refine Stop.go ?_
      refine' ksw_end (_, _, _, _) (by k_asm) (by k_asm) ?hn trivial ?hk ?hr ?hp ?hm
      walk_at "my:wend"
      (case hp => exact hO.step (of_decide_eq_true hc))
      (case hm => exact hO.less (of_decide_eq_true hc))
    · rename (¬ (decide _ = true)) => hc
      have hc' := fun e => hc (decide_eq_true e)
      k_steps
      refine' ret_isD ?e0 ?e1 ?e2 ?e3 ?e4 hO.eq (Int.not_lt.mp hc') hO.lt ?e5
      (case e0 => assumption)
      (case e1 => k_asm)
      (case e2 => k_asm)
      (case e3 => exact List.Mem.head _)
      (case e4 => walk_at "my:sub")
      (case e5 => walk_at "my:lt")
end
theorem all_LC3 : ∀ v, VP_LC3 v := k_LC3.2 c_spec_d3
section
variable (w : World) (p : Program) (loose : List Str) (mean : ExcName → Option Value) (mg mb : Str → Option Value)
theorem spec_d3 (nd : Nat) (lim : Int) (ih : ∀ (news : List (Addr × Obj)) (a b n : Int) (t1 t2 t3 : Tok), 0 ≤ a → 0 < b → b < 2 ^ n.toNat → a < b * 2 ^ n.toNat → 0 ≤ n → n ≤ lim → n ≤ 20000 → Spec w p loose mean mg mb nd news 21 [.int a t1, .int b t2, .int n t3] [] (isD a b news))
    (news : List (Addr × Obj)) (x y b b1 b2 n : Int) (t1 t2 t3 t4 t5 t6 : Tok) (H : Pre3 x y b b1 b2 n) (hlim : n ≤ lim) : Spec w p loose mean mg mb (nd + 2) news 28 [.int x t1, .int y t2, .int b t3, .int b1 t4, .int b2 t5, .int n t6] [] (isD (x * 2 ^ n.toNat + y) b news) := by
  refine' spec_body (qual := Str.ofString "_div3n2n") (body := fb3.1) (scope := fb3.2) (cdv := .ref 27) (binds := [(Str.ofString "a12", .int x t1), (Str.ofString "a3", .int y t2), (Str.ofString "b", .int b t3), (Str.ofString "b1", .int b1 t4), (Str.ofString "b2", .int b2 t5), (Str.ofString "n", .int n t6)]) (fun z0 z1 z2 z3 z4 z5 z6 z7 z8 z9 z10 z11 z12 z13 z14 z15 z16 z17 z18 z19 => (all_LC3 (w, p, loose, mean, mg, mb, nd, lim, news, x, y, b, b1, b2, n, t1, t2, t3, t4, t5, t6, z0, z1, z2, z3, z4, z5, z6, z7, z8, z9, z10, z11, z12, z13, z14, z15, z16, z17, z18, z19)) ih H hlim) ?ho ?hcd ?h1 ?hb ?hl ?c1 ?c2 ?c3 ?hc
  (case c1 => exact rfl); (case c2 => exact rfl); (case c3 => exact rfl)
  (case ho => k_is)
  (case hcd => k_is)
  (case h1 => omega)
  (case hb => exact fun _ _ _ _ _ _ => BindsTo.of_eq rfl)
  (case hl => exact locs rfl)
  (case hc => decide)
end
end
end
theorem off_LC3 : True := trivial
-- LM2
theorem again_LM2 : True := by w_top off; (try walk1); trivial
section
structure Pre2 (a b n : Int) : Prop where
  a0 : 0 ≤ a
  bp : 0 < b
  b1 : b < 2 ^ n.toNat
  lt : a < b * 2 ^ n.toNat
  n0 : 0 ≤ n
  n1 : n ≤ 20001
theorem half_eq {n : Int} (_h0 : 0 ≤ n) (he : n % 2 = 0) : n.fdiv (2 ^ (1 : Int).toNat) * 2 = n := by
  have e : n.fdiv (2 ^ (1 : Int).toNat) = n / 2 := fdiv_pow n 1
  rw [e]; omega
structure Half (n h : Int) : Prop where
  h0 : 0 ≤ h
  e : n = h * 2
  p : (2 : Int) ^ n.toNat = 2 ^ h.toNat * 2 ^ h.toNat
theorem half_of {n : Int} (h0 : 0 ≤ n) (he : n % 2 = 0) : Half n (n.fdiv (2 ^ (1 : Int).toNat)) := by
  have e := half_eq h0 he
  generalize n.fdiv (2 ^ (1 : Int).toNat) = h at *
  refine ⟨by omega, e.symm, ?_⟩
  rw [← Int.pow_add]
  congr 1
  omega
section
variable {a b n h : Int}
theorem one_mask (x : Int) (k : Nat) : Builtin.bitAnd x (1 * 2 ^ k - 1) = x % 2 ^ k := by rw [Int.one_mul, kbt_mask]
theorem Pre2.call1 (H : Pre2 a b n) (E : Half n h) : Pre3 (a.fdiv (2 ^ n.toNat)) (Builtin.bitAnd (a.fdiv (2 ^ h.toNat)) (1 * 2 ^ h.toNat - 1)) b (b.fdiv (2 ^ h.toNat)) (Builtin.bitAnd b (1 * 2 ^ h.toNat - 1)) h := by
  rw [one_mask, one_mask, fdiv_pow, fdiv_pow, fdiv_pow]
  have hP := two_pos h.toNat
  have h1 := H.a0; have h2 := H.bp; have h3 := H.b1; have h4 := H.lt; have h5 := E.e; have h6 := H.n1; have h7 := E.h0
  rw [E.p] at h3 h4 ⊢
  generalize hQ : (2 : Int) ^ h.toNat = P at *
  have e1 : a / (P * P) = a / P / P := by rw [Int.ediv_ediv_of_nonneg (Int.le_of_lt hP)]
  rw [e1]
  refine ⟨Int.ediv_nonneg (Int.ediv_nonneg h1 (Int.le_of_lt hP)) (Int.le_of_lt hP), Int.emod_nonneg _ (Int.ne_of_gt hP), by rw [hQ]; exact Int.emod_lt_of_pos _ hP, hQ.symm ▸ ?_, Int.ediv_nonneg (Int.le_of_lt h2) (Int.le_of_lt hP), hQ.symm ▸ ?_, Int.emod_nonneg _ (Int.ne_of_gt hP), by rw [hQ]; exact Int.emod_lt_of_pos _ hP, h7, by omega, hQ.symm ▸ ?_, h2⟩
  · have := Int.emod_add_mul_ediv b P
    rw [Int.mul_comm] at this; omega
  · exact Int.ediv_lt_of_lt_mul hP h3
  · have := Int.emod_add_mul_ediv (a / P) P
    rw [Int.mul_comm] at this
    have h8 : a / P < b * P := Int.ediv_lt_of_lt_mul hP (by rw [Int.mul_assoc]; exact h4)
    omega
theorem Pre2.call2 (H : Pre2 a b n) (E : Half n h) {z : Int} (z0 : 0 ≤ z) (z1 : z < b) : Pre3 z (Builtin.bitAnd a (1 * 2 ^ h.toNat - 1)) b (b.fdiv (2 ^ h.toNat)) (Builtin.bitAnd b (1 * 2 ^ h.toNat - 1)) h := by
  have K := H.call1 E
  rw [one_mask a]
  have hP := two_pos h.toNat
  refine ⟨z0, Int.emod_nonneg _ (Int.ne_of_gt hP), Int.emod_lt_of_pos _ hP, K.eb, K.b10, K.b11, K.b20, K.b21, K.n0, K.n1, ?_, K.bp⟩
  have h5 := Int.emod_lt_of_pos a hP
  have h6 : (z + 1) * 2 ^ h.toNat ≤ b * 2 ^ h.toNat := mul_le_mono (Int.le_of_lt hP) (by omega)
  rw [Int.add_mul] at h6
  omega
theorem quot_lt {x b q z P : Int} (e : x = q * b + z) (z0 : 0 ≤ z) (z1 : z < b) (x0 : 0 ≤ x) (hx : x < b * P) : 0 ≤ q ∧ q < P := by
  have hb : 0 < b := by omega
  refine ⟨Int.le_of_lt_add_one (mul_lt_cancel hb (x := 0) (b := q + 1) (by rw [Int.add_mul]; omega)), mul_lt_cancel hb ?_⟩
  rw [Int.mul_comm P b]; omega
theorem Pre3.x00 {x y b1 b2 : Int} (K : Pre3 x y b b1 b2 n) : 0 ≤ x * 2 ^ n.toNat + y := by
  have := Int.mul_nonneg K.x0 (Int.le_of_lt (two_pos n.toNat))
  have := K.y0
  omega
theorem Pre2.shq (H : Pre2 a b n) (E : Half n h) {q z : Int} (e : a.fdiv (2 ^ n.toNat) * 2 ^ h.toNat + Builtin.bitAnd (a.fdiv (2 ^ h.toNat)) (1 * 2 ^ h.toNat - 1) = q * b + z) (z0 : 0 ≤ z) (z1 : z < b) : (Builtin.Int.intBits q : Int) + h ≤ 2 ^ 27 := by
  have K := H.call1 E
  obtain ⟨q0, q1⟩ := quot_lt e z0 z1 K.x00 K.lt
  exact bits_sh q0 q1 (by have := K.n1; omega) (by have := K.n1; omega)
theorem Pre2.fin (H : Pre2 a b n) (E : Half n h) {q1 z1 q2 z2 : Int} (e1 : a.fdiv (2 ^ n.toNat) * 2 ^ h.toNat + Builtin.bitAnd (a.fdiv (2 ^ h.toNat)) (1 * 2 ^ h.toNat - 1) = q1 * b + z1) (z10 : 0 ≤ z1) (z11 : z1 < b)
    (e2 : z1 * 2 ^ h.toNat + Builtin.bitAnd a (1 * 2 ^ h.toNat - 1) = q2 * b + z2) (z20 : 0 ≤ z2) (z21 : z2 < b) : a = Builtin.bitOr (q1 * 2 ^ h.toNat) q2 * b + z2 := by
  have K2 := H.call2 E z10 z11
  obtain ⟨q20, q21⟩ := quot_lt e2 z20 z21 K2.x00 K2.lt
  rw [bor_add q20 q21]
  rw [one_mask, fdiv_pow, fdiv_pow, E.p] at e1
  rw [one_mask] at e2
  have hP := two_pos h.toNat
  generalize (2 : Int) ^ h.toNat = P at *
  have e3 : a / (P * P) = a / P / P := by rw [Int.ediv_ediv_of_nonneg (Int.le_of_lt hP)]
  rw [e3] at e1
  have e4 := Int.emod_add_mul_ediv (a / P) P
  have e5 := Int.emod_add_mul_ediv a P
  have e6 : a / P = q1 * b + z1 := by rw [← e1, Int.mul_comm (a / P / P) P]; omega
  rw [e6] at e5
  have e7 : (q1 * P + q2) * b = P * (q1 * b) + q2 * b := by grind
  have e8 : P * (q1 * b + z1) = P * (q1 * b) + z1 * P := by grind
  omega
theorem Pre2.sh1 (E : Half n h) (H : Pre2 a b n) : (Builtin.Int.intBits 1 : Int) + h ≤ 2 ^ 27 := bits_sh (M := 1) (by decide) (by decide) (by decide) (by have := H.n1; have := E.e; have := E.h0; omega)
theorem Pre2.pad (H : Pre2 a b n) (hn : n ≤ 20000) : Pre2 (a * 2 ^ (1 : Int).toNat) (b * 2 ^ (1 : Int).toNat) (n + 1) := by
  have e : (n + 1).toNat = n.toNat + 1 := by have := H.n0; omega
  have h1 := H.a0; have h2 := H.bp; have h3 := H.b1; have h4 := H.lt; have h5 := H.n0
  have e2 : (2 : Int) ^ (1 : Int).toNat = 2 := by decide
  rw [e2]
  refine ⟨by omega, by omega, ?_, ?_, by omega, by omega⟩
  · rw [e, Int.pow_succ]; omega
  · rw [e, Int.pow_succ]
    generalize (2 : Int) ^ n.toNat = P at *
    have : b * 2 * (P * 2) = b * P * 4 := by grind
    omega
theorem Pre2.bits (H : Pre2 a b n) : (Builtin.Int.intBits a : Int) + 1 ≤ 2 ^ 27 ∧ (Builtin.Int.intBits b : Int) + 1 ≤ 2 ^ 27 := by
  have h1 := H.a0; have h2 := H.bp; have h3 := H.b1; have h4 := H.lt; have h5 := H.n1
  have hP := two_pos n.toNat
  refine ⟨bits_sh (M := n.toNat + n.toNat) h1 ?_ (by omega) (by decide), bits_sh (M := n.toNat) (by omega) h3 (by omega) (by decide)⟩
  rw [Int.pow_add]
  have := mul_le_mono (Int.le_of_lt hP) (x := b) (b := 2 ^ n.toNat) (Int.le_of_lt h3)
  omega
theorem Pre2.small (H : Pre2 a b n) (hn : n ≤ 4000) : (Builtin.Int.intBits a : Int) - n ≤ 4000 := by
  have h1 := H.a0; have h2 := H.bp; have h3 := H.b1; have h4 := H.lt; have h5 := H.n0
  have hP := two_pos n.toNat
  have : Builtin.Int.intBits a ≤ n.toNat + n.toNat := bits_of_lt h1 (by
    rw [Int.pow_add]
    have := mul_le_mono (Int.le_of_lt hP) (x := b) (b := 2 ^ n.toNat) (Int.le_of_lt h3)
    omega)
  omega
theorem pad_fin {Q z : Int} (e : a * 2 ^ (1 : Int).toNat = Q * (b * 2 ^ (1 : Int).toNat) + z) (z0 : 0 ≤ z) (z1 : z < b * 2 ^ (1 : Int).toNat) : a = Q * b + z.fdiv (2 ^ (1 : Int).toNat) ∧ 0 ≤ z.fdiv (2 ^ (1 : Int).toNat) ∧ z.fdiv (2 ^ (1 : Int).toNat) < b := by
  have e2 : (2 : Int) ^ (1 : Int).toNat = 2 := by decide
  have e3 : z.fdiv (2 ^ (1 : Int).toNat) = z / 2 := fdiv_pow z 1
  rw [e3]
  rw [e2] at e z1
  have : Q * (b * 2) = Q * b * 2 := by grind
  omega
theorem pad_odd (h : (Builtin.bitAnd n 1 != 0) = true) : n % 2 = 1 := by
  rw [bitAnd_m1] at h
  have := bne_iff_ne.mp h
  omega
theorem pad_even (h : ¬ (Builtin.bitAnd n 1 != 0) = true) : n % 2 = 0 := by
  rw [bitAnd_m1] at h
  by_cases e : n % 2 = 0
  · exact e
  · exact absurd (bne_iff_ne.mpr e) h
theorem dm_eq (a : Int) {b : Int} (hb : 0 < b) : a = a.fdiv b * b + a.fmod b ∧ 0 ≤ a.fmod b ∧ a.fmod b < b := by
  rw [Int.fdiv_eq_ediv_of_nonneg _ (Int.le_of_lt hb), Int.fmod_eq_emod_of_nonneg _ (Int.le_of_lt hb)]
  have := Int.emod_add_mul_ediv a b
  rw [Int.mul_comm] at this
  exact ⟨by omega, Int.emod_nonneg _ (Int.ne_of_gt hb), Int.emod_lt_of_pos _ hb⟩
end
end
-- LC4
theorem again_LC4 : True := by w_top off; (try walk1); trivial
section
section
theorem lay_6 : True := by
  k_with "ite" => ((fail_if_success (have z9 := off_LC4)); (refine stop_here ?_))
  k_with "call ref" => ((fail_if_success (have z9 := off_LC4)); (k_here; (with_reducible show wpAny _ _ (call (Value.ref 28) _ _) _ _ _); refine stop_here ?_))
  k_with "call builtin:divmod" => ((fail_if_success (have z9 := off_LC4)); (refine stop_here ?_))
  trivial
def C_spec_d2_base (w : World) (p : Program) (loose : List Str) (mean : ExcName → Option Value) (mg : Str → Option Value) (mb : Str → Option Value) (news : List (Addr × Obj)) (a0 : Int) (b0 : Int) (n : Int) (t1 : Tok) (t2 : Tok) (t3 : Tok) (dp : Nat) (un : Nat) (gd : Option (List Code)) (cn : Str) (cs : Scope) (a : Addr) (ccd : Value) (cl : List (Str × Addr)) (outer : List Env) (A₀ : Around) (base : Heap) (h₀ : Heap) (L : Addr) (m : Str → Option Value) (s : Shared) (Q : Value → Shared → Prop) (E : Value → Shared → Prop) (g' : Heap) (L' : Addr) (h' : Heap) : Prop :=
  (importsNone p = true) →
  (Pre2 a0 b0 n) →
  (n ≤ 4000) →
  RunD w p loose mean mg mb 101 news 21 (isD a0 b0 news) (Str.ofString "_div2n1n") fb2.1 fb2.2 (.ref 20) [(Str.ofString "a", .int a0 t1), (Str.ofString "b", .int b0 t2), (Str.ofString "n", .int n t3)] dp un gd cn cs a ccd cl outer A₀ base h₀ L m s Q E g' L' h'
def C_spec_d2_step (w : World) (p : Program) (loose : List Str) (mean : ExcName → Option Value) (mg : Str → Option Value) (mb : Str → Option Value) (nd : Nat) (lim : Int) (news : List (Addr × Obj)) (a0 : Int) (b0 : Int) (n : Int) (t1 : Tok) (t2 : Tok) (t3 : Tok) (dp : Nat) (un : Nat) (gd : Option (List Code)) (cn : Str) (cs : Scope) (a : Addr) (ccd : Value) (cl : List (Str × Addr)) (outer : List Env) (A₀ : Around) (base : Heap) (h₀ : Heap) (L : Addr) (m : Str → Option Value) (s : Shared) (Q : Value → Shared → Prop) (E : Value → Shared → Prop) (g' : Heap) (L' : Addr) (h' : Heap) : Prop :=
  (importsNone p = true) →
  (100 ≤ nd) →
  (∀ (news : List (Addr × Obj)) (a b n : Int) (t1 t2 t3 : Tok), 0 ≤ a → 0 < b → b < 2 ^ n.toNat → a < b * 2 ^ n.toNat → 0 ≤ n → n ≤ lim → n ≤ 20000 → Spec w p loose mean mg mb nd news 21 [.int a t1, .int b t2, .int n t3] [] (isD a b news)) →
  (Pre2 a0 b0 n) →
  (n ≤ 2 * lim) →
  (n ≤ 20000) →
  RunD w p loose mean mg mb (nd + 3) news 21 (isD a0 b0 news) (Str.ofString "_div2n1n") fb2.1 fb2.2 (.ref 20) [(Str.ofString "a", .int a0 t1), (Str.ofString "b", .int b0 t2), (Str.ofString "n", .int n t3)] dp un gd cn cs a ccd cl outer A₀ base h₀ L m s Q E g' L' h'
abbrev V_LC4 := (World) × (Program) × (List Str) × (ExcName → Option Value) × (Str → Option Value) × (Str → Option Value) × (List (Addr × Obj)) × (Int) × (Int) × (Int) × (Tok) × (Tok) × (Tok) × (Nat) × (Nat) × (Option (List Code)) × (Str) × (Scope) × (Addr) × (Value) × (List (Str × Addr)) × (List Env) × (Around) × (Heap) × (Heap) × (Addr) × (Str → Option Value) × (Shared) × (Value → Shared → Prop) × (Value → Shared → Prop) × (Heap) × (Addr) × (Heap) × (Nat) × (Int)
def D_spec_d2_base (v : V_LC4) : Prop := C_spec_d2_base v.1 v.2.1 v.2.2.1 v.2.2.2.1 v.2.2.2.2.1 v.2.2.2.2.2.1 v.2.2.2.2.2.2.1 v.2.2.2.2.2.2.2.1 v.2.2.2.2.2.2.2.2.1 v.2.2.2.2.2.2.2.2.2.1 v.2.2.2.2.2.2.2.2.2.2.1 v.2.2.2.2.2.2.2.2.2.2.2.1 v.2.2.2.2.2.2.2.2.2.2.2.2.1 v.2.2.2.2.2.2.2.2.2.2.2.2.2.1 v.2.2.2.2.2.2.2.2.2.2.2.2.2.2.1 v.2.2.2.2.2.2.2.2.2.2.2.2.2.2.2.1 v.2.2.2.2.2.2.2.2.2.2.2.2.2.2.2.2.1 v.2.2.2.2.2.2.2.2.2.2.2.2.2.2.2.2.2.1 v.2.2.2.2.2.2.2.2.2.2.2.2.2.2.2.2.2.2.1 v.2.2.2.2.2.2.2.2.2.2.2.2.2.2.2.2.2.2.2.1 v.2.2.2.2.2.2.2.2.2.2.2.2.2.2.2.2.2.2.2.2.1 v.2.2.2.2.2.2.2.2.2.2.2.2.2.2.2.2.2.2.2.2.2.1 v.2.2.2.2.2.2.2.2.2.2.2.2.2.2.2.2.2.2.2.2.2.2.1 v.2.2.2.2.2.2.2.2.2.2.2.2.2.2.2.2.2.2.2.2.2.2.2.1 v.2.2.2.2.2.2.2.2.2.2.2.2.2.2.2.2.2.2.2.2.2.2.2.2.1 v.2.2.2.2.2.2.2.2.2.2.2.2.2.2.2.2.2.2.2.2.2.2.2.2.2.1 v.2.2.2.2.2.2.2.2.2.2.2.2.2.2.2.2.2.2.2.2.2.2.2.2.2.2.1 v.2.2.2.2.2.2.2.2.2.2.2.2.2.2.2.2.2.2.2.2.2.2.2.2.2.2.2.1 v.2.2.2.2.2.2.2.2.2.2.2.2.2.2.2.2.2.2.2.2.2.2.2.2.2.2.2.2.1 v.2.2.2.2.2.2.2.2.2.2.2.2.2.2.2.2.2.2.2.2.2.2.2.2.2.2.2.2.2.1 v.2.2.2.2.2.2.2.2.2.2.2.2.2.2.2.2.2.2.2.2.2.2.2.2.2.2.2.2.2.2.1 v.2.2.2.2.2.2.2.2.2.2.2.2.2.2.2.2.2.2.2.2.2.2.2.2.2.2.2.2.2.2.2.1 v.2.2.2.2.2.2.2.2.2.2.2.2.2.2.2.2.2.2.2.2.2.2.2.2.2.2.2.2.2.2.2.2.1
def D_spec_d2_step (v : V_LC4) : Prop := C_spec_d2_step v.1 v.2.1 v.2.2.1 v.2.2.2.1 v.2.2.2.2.1 v.2.2.2.2.2.1 v.2.2.2.2.2.2.2.2.2.2.2.2.2.2.2.2.2.2.2.2.2.2.2.2.2.2.2.2.2.2.2.2.2.1 v.2.2.2.2.2.2.2.2.2.2.2.2.2.2.2.2.2.2.2.2.2.2.2.2.2.2.2.2.2.2.2.2.2.2 v.2.2.2.2.2.2.1 v.2.2.2.2.2.2.2.1 v.2.2.2.2.2.2.2.2.1 v.2.2.2.2.2.2.2.2.2.1 v.2.2.2.2.2.2.2.2.2.2.1 v.2.2.2.2.2.2.2.2.2.2.2.1 v.2.2.2.2.2.2.2.2.2.2.2.2.1 v.2.2.2.2.2.2.2.2.2.2.2.2.2.1 v.2.2.2.2.2.2.2.2.2.2.2.2.2.2.1 v.2.2.2.2.2.2.2.2.2.2.2.2.2.2.2.1 v.2.2.2.2.2.2.2.2.2.2.2.2.2.2.2.2.1 v.2.2.2.2.2.2.2.2.2.2.2.2.2.2.2.2.2.1 v.2.2.2.2.2.2.2.2.2.2.2.2.2.2.2.2.2.2.1 v.2.2.2.2.2.2.2.2.2.2.2.2.2.2.2.2.2.2.2.1 v.2.2.2.2.2.2.2.2.2.2.2.2.2.2.2.2.2.2.2.2.1 v.2.2.2.2.2.2.2.2.2.2.2.2.2.2.2.2.2.2.2.2.2.1 v.2.2.2.2.2.2.2.2.2.2.2.2.2.2.2.2.2.2.2.2.2.2.1 v.2.2.2.2.2.2.2.2.2.2.2.2.2.2.2.2.2.2.2.2.2.2.2.1 v.2.2.2.2.2.2.2.2.2.2.2.2.2.2.2.2.2.2.2.2.2.2.2.2.1 v.2.2.2.2.2.2.2.2.2.2.2.2.2.2.2.2.2.2.2.2.2.2.2.2.2.1 v.2.2.2.2.2.2.2.2.2.2.2.2.2.2.2.2.2.2.2.2.2.2.2.2.2.2.1 v.2.2.2.2.2.2.2.2.2.2.2.2.2.2.2.2.2.2.2.2.2.2.2.2.2.2.2.1 v.2.2.2.2.2.2.2.2.2.2.2.2.2.2.2.2.2.2.2.2.2.2.2.2.2.2.2.2.1 v.2.2.2.2.2.2.2.2.2.2.2.2.2.2.2.2.2.2.2.2.2.2.2.2.2.2.2.2.2.1 v.2.2.2.2.2.2.2.2.2.2.2.2.2.2.2.2.2.2.2.2.2.2.2.2.2.2.2.2.2.2.1 v.2.2.2.2.2.2.2.2.2.2.2.2.2.2.2.2.2.2.2.2.2.2.2.2.2.2.2.2.2.2.2.1 v.2.2.2.2.2.2.2.2.2.2.2.2.2.2.2.2.2.2.2.2.2.2.2.2.2.2.2.2.2.2.2.2.1
def VP_LC4 (v : V_LC4) : Prop := D_spec_d2_base v ∧ D_spec_d2_step v
theorem ne_LC4 : Nonempty V_LC4 := ⟨((⟨fun _ _ => 0, { strHash := fun _ => 0, shareClass := fun _ => 0, mergeTok := id, idOf := fun _ => 0, idOfShared := fun _ _ => 0, followText := fun _ => false, idOfImm := fun _ => 0 }⟩ : World), (default : Program), ([] : List Str), (fun _  => none), (fun _  => none), (fun _  => none), ([] : List (Addr × Obj)), (0 : Int), (0 : Int), (0 : Int), (0 : Tok), (0 : Tok), (0 : Tok), (0 : Nat), (0 : Nat), (none : Option (List Code)), (Str.empty : Str), (default : Scope), (0 : Addr), (.none : Value), ([] : List (Str × Addr)), ([] : List Env), ({} : Around), ({} : Heap), ({} : Heap), (0 : Addr), (fun _  => none), ({} : Shared), (fun _ _  => True), (fun _ _  => True), ({} : Heap), (0 : Addr), ({} : Heap), (0 : Nat), (0 : Int))⟩
noncomputable def k_LC4 : {v : V_LC4 // VP_LC4 v → ∀ x, VP_LC4 x} := Classical.choice (drink ne_LC4 VP_LC4)
noncomputable def K_LC4.w : World := k_LC4.1.1
noncomputable def K_LC4.p : Program := k_LC4.1.2.1
noncomputable def K_LC4.loose : List Str := k_LC4.1.2.2.1
noncomputable def K_LC4.mean : ExcName → Option Value := k_LC4.1.2.2.2.1
noncomputable def K_LC4.mg : Str → Option Value := k_LC4.1.2.2.2.2.1
noncomputable def K_LC4.mb : Str → Option Value := k_LC4.1.2.2.2.2.2.1
noncomputable def K_LC4.news : List (Addr × Obj) := k_LC4.1.2.2.2.2.2.2.1
noncomputable def K_LC4.a0 : Int := k_LC4.1.2.2.2.2.2.2.2.1
noncomputable def K_LC4.b0 : Int := k_LC4.1.2.2.2.2.2.2.2.2.1
noncomputable def K_LC4.n : Int := k_LC4.1.2.2.2.2.2.2.2.2.2.1
noncomputable def K_LC4.t1 : Tok := k_LC4.1.2.2.2.2.2.2.2.2.2.2.1
noncomputable def K_LC4.t2 : Tok := k_LC4.1.2.2.2.2.2.2.2.2.2.2.2.1
noncomputable def K_LC4.t3 : Tok := k_LC4.1.2.2.2.2.2.2.2.2.2.2.2.2.1
noncomputable def K_LC4.dp : Nat := k_LC4.1.2.2.2.2.2.2.2.2.2.2.2.2.2.1
noncomputable def K_LC4.un : Nat := k_LC4.1.2.2.2.2.2.2.2.2.2.2.2.2.2.2.1
noncomputable def K_LC4.gd : Option (List Code) := k_LC4.1.2.2.2.2.2.2.2.2.2.2.2.2.2.2.2.1
noncomputable def K_LC4.cn : Str := k_LC4.1.2.2.2.2.2.2.2.2.2.2.2.2.2.2.2.2.1
noncomputable def K_LC4.cs : Scope := k_LC4.1.2.2.2.2.2.2.2.2.2.2.2.2.2.2.2.2.2.1
noncomputable def K_LC4.a : Addr := k_LC4.1.2.2.2.2.2.2.2.2.2.2.2.2.2.2.2.2.2.2.1
noncomputable def K_LC4.ccd : Value := k_LC4.1.2.2.2.2.2.2.2.2.2.2.2.2.2.2.2.2.2.2.2.1
noncomputable def K_LC4.cl : List (Str × Addr) := k_LC4.1.2.2.2.2.2.2.2.2.2.2.2.2.2.2.2.2.2.2.2.2.1
noncomputable def K_LC4.outer : List Env := k_LC4.1.2.2.2.2.2.2.2.2.2.2.2.2.2.2.2.2.2.2.2.2.2.1
noncomputable def K_LC4.A₀ : Around := k_LC4.1.2.2.2.2.2.2.2.2.2.2.2.2.2.2.2.2.2.2.2.2.2.2.1
noncomputable def K_LC4.base : Heap := k_LC4.1.2.2.2.2.2.2.2.2.2.2.2.2.2.2.2.2.2.2.2.2.2.2.2.1
noncomputable def K_LC4.h₀ : Heap := k_LC4.1.2.2.2.2.2.2.2.2.2.2.2.2.2.2.2.2.2.2.2.2.2.2.2.2.1
noncomputable def K_LC4.L : Addr := k_LC4.1.2.2.2.2.2.2.2.2.2.2.2.2.2.2.2.2.2.2.2.2.2.2.2.2.2.1
noncomputable def K_LC4.m : Str → Option Value := k_LC4.1.2.2.2.2.2.2.2.2.2.2.2.2.2.2.2.2.2.2.2.2.2.2.2.2.2.2.1
noncomputable def K_LC4.s : Shared := k_LC4.1.2.2.2.2.2.2.2.2.2.2.2.2.2.2.2.2.2.2.2.2.2.2.2.2.2.2.2.1
noncomputable def K_LC4.Q : Value → Shared → Prop := k_LC4.1.2.2.2.2.2.2.2.2.2.2.2.2.2.2.2.2.2.2.2.2.2.2.2.2.2.2.2.2.1
noncomputable def K_LC4.E : Value → Shared → Prop := k_LC4.1.2.2.2.2.2.2.2.2.2.2.2.2.2.2.2.2.2.2.2.2.2.2.2.2.2.2.2.2.2.1
noncomputable def K_LC4.g' : Heap := k_LC4.1.2.2.2.2.2.2.2.2.2.2.2.2.2.2.2.2.2.2.2.2.2.2.2.2.2.2.2.2.2.2.1
noncomputable def K_LC4.L' : Addr := k_LC4.1.2.2.2.2.2.2.2.2.2.2.2.2.2.2.2.2.2.2.2.2.2.2.2.2.2.2.2.2.2.2.2.1
noncomputable def K_LC4.h' : Heap := k_LC4.1.2.2.2.2.2.2.2.2.2.2.2.2.2.2.2.2.2.2.2.2.2.2.2.2.2.2.2.2.2.2.2.2.1
noncomputable def K_LC4.nd : Nat := k_LC4.1.2.2.2.2.2.2.2.2.2.2.2.2.2.2.2.2.2.2.2.2.2.2.2.2.2.2.2.2.2.2.2.2.2.1
noncomputable def K_LC4.lim : Int := k_LC4.1.2.2.2.2.2.2.2.2.2.2.2.2.2.2.2.2.2.2.2.2.2.2.2.2.2.2.2.2.2.2.2.2.2.2
section
open K_LC4
theorem c_spec_d2_base : C_spec_d2_base w p loose mean mg mb news a0 b0 n t1 t2 t3 dp un gd cn cs a ccd cl outer A₀ base h₀ L m s Q E g' L' h' := by
  unfold C_spec_d2_base RunD
  dsimp only [fb2]
  k_fill
  intro hip H hn B F X N T hk hdp hun hret FG' F' N' B' X' T'
  (try dsimp only)
  (try dsimp only [List.reverse, List.reverseAux, List.lookup] at F')
  (try k_lift B')
  (try k_fold)
  k_steps
  refine Stop.go ?_
  split
  · skip
    have hnd' : dp + 1 + 100 < recursionLimit := by omega
    k_steps
    rename News _ _ _ _ => NN0
    (k_dflt (refine' divmod_N ?F ?N ?b ?_ (Or.inr (PylongRoom.of ?nl ?hd (SeerAt.of ?sr (by rfl) (by rfl) (by rfl) (by rfl) (by rfl) (by rfl))))); (case F => k_asm); (case N => k_asm); (case b => exact Int.ne_of_gt H.bp); (case nl => exact (Top.nolimit (by assumption)).keeps (Fr.keep (by assumption))); (case hd => exact hnd'); (case sr => exact (Top.seer (by assumption) hip).keeps (Fr.keep (by assumption))))
    intro hT FT NT
    (try dsimp only)
    k_steps
    obtain ⟨dm1, dm2, dm3⟩ := dm_eq a0 H.bp
    refine' ret_isD ?e0 ?e1 ?e2 ?e3 ?e4 dm1 dm2 dm3 ?e5
    (case e0 => assumption)
    (case e1 => k_asm)
    (case e2 => k_asm)
    (case e3 => exact List.Mem.head _)
    (case e4 => walk_at "my:sub")
    (case e5 => exact fun q hq => Heap.lt_size (NN0 q hq).1)
  · rename (¬ (decide _ = true)) => hq
    exact absurd (decide_eq_true (H.small hn)) hq
end
section
open K_LC4
theorem c_spec_d2_step : C_spec_d2_step w p loose mean mg mb nd lim news a0 b0 n t1 t2 t3 dp un gd cn cs a ccd cl outer A₀ base h₀ L m s Q E g' L' h' := by
  unfold C_spec_d2_step RunD
  dsimp only [fb2]
  k_fill
  intro hip hnd ih H hlim hn B F X N T hk hdp hun hret FG' F' N' B' X' T'
  (try dsimp only)
  (try dsimp only [List.reverse, List.reverseAux, List.lookup] at F')
  (try k_lift B')
  (try k_fold)
  k_steps
  refine Stop.go ?_
  split
  · skip
    have hnd' : dp + 1 + 100 < recursionLimit := by omega
    k_steps
    rename News _ _ _ _ => NN0
    (k_dflt (refine' divmod_N ?F ?N ?b ?_ (Or.inr (PylongRoom.of ?nl ?hd (SeerAt.of ?sr (by rfl) (by rfl) (by rfl) (by rfl) (by rfl) (by rfl))))); (case F => k_asm); (case N => k_asm); (case b => exact Int.ne_of_gt H.bp); (case nl => exact (Top.nolimit (by assumption)).keeps (Fr.keep (by assumption))); (case hd => exact hnd'); (case sr => exact (Top.seer (by assumption) hip).keeps (Fr.keep (by assumption))))
    intro hT FT NT
    (try dsimp only)
    k_steps
    obtain ⟨dm1, dm2, dm3⟩ := dm_eq a0 H.bp
    refine' ret_isD ?e0 ?e1 ?e2 ?e3 ?e4 dm1 dm2 dm3 ?e5
    (case e0 => assumption)
    (case e1 => k_asm)
    (case e2 => k_asm)
    (case e3 => exact List.Mem.head _)
    (case e4 => walk_at "my:sub")
    (case e5 => exact fun q hq => Heap.lt_size (NN0 q hq).1)
  · obtain ⟨hsa, hsb⟩ := H.bits
    k_steps
    refine Stop.go ?_
    split
    · rename ((_ != _) = true) => hpad
      have hodd := pad_odd hpad
      have HH : Pre2 (a0 * 2 ^ (1 : Int).toNat) (b0 * 2 ^ (1 : Int).toNat) (n + 1) := H.pad hn
      have hE : Half (n + 1) ((n + 1).fdiv (2 ^ (1 : Int).toNat)) := half_of (by have := H.n0; omega) (by omega)
      have hh0 : 0 ≤ (n + 1).fdiv (2 ^ (1 : Int).toNat) := hE.h0
      have hN0 : 0 ≤ n + 1 := by have := H.n0; omega
      have hsh1 := Pre2.sh1 hE HH
      have hlim' : (n + 1).fdiv (2 ^ (1 : Int).toNat) ≤ lim := by have := hE.e; omega
      k_steps
      refine Stop.go ?_
      k_dflt (refine' Spec.useD (spec_d3 w p loose mean mg mb nd lim ih _ _ _ _ _ _ _ _ _ _ _ _ _ (HH.call1 hE) hlim') ?k1 ?k2 ?k3 ?k4 ?k5 ?kK ?kd ?ku ?_)
      walk_at "my:use"
      intro q1 z1 l1 tq1 tz1 h1 tk1 F1 N1 eq1 z10 z11 lt1
      (try dsimp only)
      have hsq := HH.shq hE eq1 z10 z11
      k_steps
      refine Stop.go ?_
      k_dflt (refine' Spec.useD (spec_d3 w p loose mean mg mb nd lim ih _ _ _ _ _ _ _ _ _ _ _ _ _ (HH.call2 hE z10 z11) hlim') ?k1 ?k2 ?k3 ?k4 ?k5 ?kK ?kd ?ku ?_)
      walk_at "my:use"
      intro q2 z2 l2 tq2 tz2 h2 tk2 F2 N2 eq2 z20 z21 lt2
      (try dsimp only)
      have fin := HH.fin hE eq1 z10 z11 eq2 z20 z21
      k_steps
      refine Stop.go ?_
      rw [if_pos hpad]
      k_steps
      obtain ⟨pf1, pf2, pf3⟩ := pad_fin fin z20 z21
      refine' ret_isD ?e0 ?e1 ?e2 ?e3 ?e4 pf1 pf2 pf3 ?e5
      (case e0 => assumption)
      (case e1 => k_asm)
      (case e2 => k_asm)
      (case e3 => exact List.Mem.head _)
      (case e4 => walk_at "my:sub")
      (case e5 => walk_at "my:lt")
    · rename (¬ (_ != _) = true) => hpad
      have heven := pad_even hpad
      have HH : Pre2 (a0) (b0) (n) := H
      have hE : Half (n) ((n).fdiv (2 ^ (1 : Int).toNat)) := half_of (by have := H.n0; omega) (by omega)
      have hh0 : 0 ≤ (n).fdiv (2 ^ (1 : Int).toNat) := hE.h0
      have hN0 : 0 ≤ n := by have := H.n0; omega
      have hsh1 := Pre2.sh1 hE HH
      have hlim' : (n).fdiv (2 ^ (1 : Int).toNat) ≤ lim := by have := hE.e; omega
      k_steps
      refine Stop.go ?_
      k_dflt (refine' Spec.useD (spec_d3 w p loose mean mg mb nd lim ih _ _ _ _ _ _ _ _ _ _ _ _ _ (HH.call1 hE) hlim') ?k1 ?k2 ?k3 ?k4 ?k5 ?kK ?kd ?ku ?_)
      walk_at "my:use"
      intro q1 z1 l1 tq1 tz1 h1 tk1 F1 N1 eq1 z10 z11 lt1
      (try dsimp only)
      have hsq := HH.shq hE eq1 z10 z11
      k_steps
      refine Stop.go ?_
      k_dflt (refine' Spec.useD (spec_d3 w p loose mean mg mb nd lim ih _ _ _ _ _ _ _ _ _ _ _ _ _ (HH.call2 hE z10 z11) hlim') ?k1 ?k2 ?k3 ?k4 ?k5 ?kK ?kd ?ku ?_)
      walk_at "my:use"
      intro q2 z2 l2 tq2 tz2 h2 tk2 F2 N2 eq2 z20 z21 lt2
      (try dsimp only)
      have fin := HH.fin hE eq1 z10 z11 eq2 z20 z21
      k_steps
      refine Stop.go ?_
      rw [if_neg hpad]
      k_steps
      skip
      refine' ret_isD ?e0 ?e1 ?e2 ?e3 ?e4 fin z20 z21 ?e5
      (case e0 => assumption)
      (case e1 => k_asm)
      (case e2 => k_asm)
      (case e3 => exact List.Mem.head _)
      (case e4 => walk_at "my:sub")
      (case e5 => walk_at "my:lt")
end
theorem all_LC4 : ∀ v, VP_LC4 v := k_LC4.2 ⟨c_spec_d2_base, c_spec_d2_step⟩
section
variable (w : World) (p : Program) (loose : List Str) (mean : ExcName → Option Value) (mg mb : Str → Option Value)
theorem spec_d2_base (hip : importsNone p = true) (news : List (Addr × Obj)) (a0 b0 n : Int) (t1 t2 t3 : Tok) (H : Pre2 a0 b0 n) (hn : n ≤ 4000) : Spec w p loose mean mg mb 101 news 21 [.int a0 t1, .int b0 t2, .int n t3] [] (isD a0 b0 news) := by
  refine' spec_body (qual := Str.ofString "_div2n1n") (body := fb2.1) (scope := fb2.2) (cdv := .ref 20) (binds := [(Str.ofString "a", .int a0 t1), (Str.ofString "b", .int b0 t2), (Str.ofString "n", .int n t3)]) (fun z0 z1 z2 z3 z4 z5 z6 z7 z8 z9 z10 z11 z12 z13 z14 z15 z16 z17 z18 z19 => (all_LC4 (w, p, loose, mean, mg, mb, news, a0, b0, n, t1, t2, t3, z0, z1, z2, z3, z4, z5, z6, z7, z8, z9, z10, z11, z12, z13, z14, z15, z16, z17, z18, z19, K_LC4.nd, K_LC4.lim)).1 hip H hn) ?ho ?hcd ?h1 ?hb ?hl ?c1 ?c2 ?c3 ?hc
  (case c1 => exact rfl); (case c2 => exact rfl); (case c3 => exact rfl)
  (case ho => k_is)
  (case hcd => k_is)
  (case h1 => omega)
  (case hb => exact fun _ _ _ _ _ _ => BindsTo.of_eq rfl)
  (case hl => exact locs rfl)
  (case hc => decide)
end
section
variable (w : World) (p : Program) (loose : List Str) (mean : ExcName → Option Value) (mg mb : Str → Option Value)
theorem spec_d2_step (hip : importsNone p = true) (nd : Nat) (hnd : 100 ≤ nd) (lim : Int) (ih : ∀ (news : List (Addr × Obj)) (a b n : Int) (t1 t2 t3 : Tok), 0 ≤ a → 0 < b → b < 2 ^ n.toNat → a < b * 2 ^ n.toNat → 0 ≤ n → n ≤ lim → n ≤ 20000 → Spec w p loose mean mg mb nd news 21 [.int a t1, .int b t2, .int n t3] [] (isD a b news))
    (news : List (Addr × Obj)) (a0 b0 n : Int) (t1 t2 t3 : Tok) (H : Pre2 a0 b0 n) (hlim : n ≤ 2 * lim) (hn : n ≤ 20000) : Spec w p loose mean mg mb (nd + 3) news 21 [.int a0 t1, .int b0 t2, .int n t3] [] (isD a0 b0 news) := by
  refine' spec_body (qual := Str.ofString "_div2n1n") (body := fb2.1) (scope := fb2.2) (cdv := .ref 20) (binds := [(Str.ofString "a", .int a0 t1), (Str.ofString "b", .int b0 t2), (Str.ofString "n", .int n t3)]) (fun z0 z1 z2 z3 z4 z5 z6 z7 z8 z9 z10 z11 z12 z13 z14 z15 z16 z17 z18 z19 => (all_LC4 (w, p, loose, mean, mg, mb, news, a0, b0, n, t1, t2, t3, z0, z1, z2, z3, z4, z5, z6, z7, z8, z9, z10, z11, z12, z13, z14, z15, z16, z17, z18, z19, nd, lim)).2 hip hnd ih H hlim hn) ?ho ?hcd ?h1 ?hb ?hl ?c1 ?c2 ?c3 ?hc
  (case c1 => exact rfl); (case c2 => exact rfl); (case c3 => exact rfl)
  (case ho => k_is)
  (case hcd => k_is)
  (case h1 => omega)
  (case hb => exact fun _ _ _ _ _ _ => BindsTo.of_eq rfl)
  (case hl => exact locs rfl)
  (case hc => decide)
end
section
variable (w : World) (p : Program) (loose : List Str) (mean : ExcName → Option Value) (mg mb : Str → Option Value)
theorem spec_d2 (hip : importsNone p = true) (news : List (Addr × Obj)) (a0 b0 n : Int) (t1 t2 t3 : Tok) (H : Pre2 a0 b0 n) (hn : n ≤ 16000) : Spec w p loose mean mg mb 107 news 21 [.int a0 t1, .int b0 t2, .int n t3] [] (isD a0 b0 news) :=
  spec_d2_step w p loose mean mg mb hip 104 (by decide) 8000 (fun news a b n t1 t2 t3 h1 h2 h3 h4 h5 h6 h7 => spec_d2_step w p loose mean mg mb hip 101 (by decide) 4000 (fun news a b n t1 t2 t3 h1 h2 h3 h4 h5 h6 h7 => spec_d2_base w p loose mean mg mb hip news a b n t1 t2 t3 ⟨h1, h2, h3, h4, h5, by omega⟩ h6) news a b n t1 t2 t3 ⟨h1, h2, h3, h4, h5, by omega⟩ (by omega) h7) news a0 b0 n t1 t2 t3 H (by omega) (by omega)
end
end
end
theorem off_LC4 : True := trivial
-- LM4
theorem again_LM4 : True := by w_top off; (try walk1); trivial
section
noncomputable def digs (n : Nat) : Nat → Int → List Int
  | 0, _ => []
  | m + 1, x => x % 2 ^ n :: digs n m (x / 2 ^ n)
theorem digs_length (n : Nat) : ∀ (m : Nat) (x : Int), (digs n m x).length = m
  | 0, _ => rfl
  | m + 1, x => by rw [digs, List.length_cons, digs_length n m]
theorem emod_split (x : Int) {P R : Int} (hP : 0 < P) (hR : 0 < R) : x % (P * R) = P * (x / P % R) + x % P := by
  have e1 := Int.emod_add_mul_ediv x P
  have e2 := Int.emod_add_mul_ediv (x / P) R
  have h1 := Int.emod_nonneg x (Int.ne_of_gt hP)
  have h2 := Int.emod_lt_of_pos x hP
  have h3 := Int.emod_nonneg (x / P) (Int.ne_of_gt hR)
  have h4 := Int.emod_lt_of_pos (x / P) hR
  have hPR : 0 < P * R := Int.mul_pos hP hR
  refine ((Int.ediv_emod_unique (q := x / P / R) hPR).mpr ⟨?_, ?_, ?_⟩).2
  · generalize x / P / R = q at *
    generalize x / P % R = r at *
    generalize x % P = s at *
    rw [← e2] at e1
    grind
  · have := Int.mul_nonneg (Int.le_of_lt hP) h3
    omega
  · have h5 : P * (x / P % R + 1) ≤ P * R := Int.mul_le_mul_of_nonneg_left (by omega) (Int.le_of_lt hP)
    rw [Int.mul_add] at h5
    omega
theorem digs_append (n : Nat) : ∀ (a b : Nat) (x : Int), digs n (a + b) x = digs n a (x % 2 ^ (n * a)) ++ digs n b (x / 2 ^ (n * a))
  | 0, b, x => by simp [digs]
  | a + 1, b, x => by
    have hP := two_pos n
    have hR := two_pos (n * a)
    have e : (2 : Int) ^ (n * (a + 1)) = 2 ^ n * 2 ^ (n * a) := by rw [← Int.pow_add]; congr 1; rw [Nat.mul_add]; omega
    have h1 := Int.emod_nonneg x (Int.ne_of_gt hP)
    have h2 := Int.emod_lt_of_pos x hP
    rw [show a + 1 + b = (a + b) + 1 by omega, digs, digs, digs_append n a b (x / 2 ^ n), e, emod_split x hP hR]
    have e3 : (2 ^ n * (x / 2 ^ n % 2 ^ (n * a)) + x % 2 ^ n) % 2 ^ n = x % 2 ^ n := by
      rw [Int.mul_add_emod_self_left]; exact Int.emod_eq_of_lt h1 h2
    have e4 : (2 ^ n * (x / 2 ^ n % 2 ^ (n * a)) + x % 2 ^ n) / 2 ^ n = x / 2 ^ n % 2 ^ (n * a) := by
      rw [Int.mul_add_ediv_left _ _ (Int.ne_of_gt hP), Int.ediv_eq_zero_of_lt h1 h2]; omega
    have e5 : x / (2 ^ n * 2 ^ (n * a)) = x / 2 ^ n / 2 ^ (n * a) := by rw [Int.ediv_ediv_of_nonneg (Int.le_of_lt hP)]
    rw [e3, e4, e5]
    rfl
theorem digs_one {n : Nat} {x : Int} (h0 : 0 ≤ x) (h1 : x < 2 ^ n) : digs n 1 x = [x] := by
  rw [digs, digs, Int.emod_eq_of_lt h0 h1]
noncomputable def setD (ds : List Int) (L : Nat) (seg : List Int) : List Int := ds.take L ++ (seg ++ ds.drop (L + seg.length))
theorem setD_length {ds seg : List Int} {L : Nat} (h : L + seg.length ≤ ds.length) : (setD ds L seg).length = ds.length := by
  unfold setD
  rw [List.length_append, List.length_append, List.length_take, List.length_drop]
  omega
theorem setD_setD {ds s1 s2 : List Int} {L : Nat} (h : L + s1.length ≤ ds.length) : setD (setD ds L s1) (L + s1.length) s2 = setD ds L (s1 ++ s2) := by
  have hl : (ds.take L).length = L := by rw [List.length_take]; omega
  unfold setD
  have e1 : (ds.take L ++ (s1 ++ ds.drop (L + s1.length))).take (L + s1.length) = ds.take L ++ s1 := by
    rw [← List.append_assoc]
    exact List.take_left' (by rw [List.length_append, hl])
  have e2 : (ds.take L ++ (s1 ++ ds.drop (L + s1.length))).drop (L + s1.length + s2.length) = ds.drop (L + (s1 ++ s2).length) := by
    rw [← List.append_assoc, ← List.drop_drop, List.drop_left' (by rw [List.length_append, hl]), List.drop_drop, List.length_append, Nat.add_assoc]
  rw [e1, e2]
  simp [List.append_assoc]
theorem setD_one {ds : List Int} {L : Nat} {x : Int} (h : L < ds.length) : ds.set L x = setD ds L [x] := by
  unfold setD
  rw [List.set_eq_take_append_cons_drop, if_pos h]
  rfl
theorem setD_all {ds seg : List Int} (h : seg.length = ds.length) : setD ds 0 seg = seg := by
  unfold setD
  rw [List.take_zero, List.nil_append, List.drop_of_length_le (by omega), List.append_nil]
structure InPre (x L R n : Int) (ds : List Int) (k : Nat) : Prop where
  x0 : 0 ≤ x
  x1 : x < 2 ^ (n.toNat * (R - L).toNat)
  L0 : 0 ≤ L
  LR : L < R
  Rd : R ≤ ds.length
  rk : R - L ≤ 2 ^ k
  d64 : ds.length ≤ 64
  n0 : 0 < n
  n1 : n ≤ 20000
structure InMid (x L R n M : Int) (ds : List Int) (k : Nat) : Prop where
  one : InPre (Builtin.bitXor x (x.fdiv (2 ^ ((M - L) * n).toNat) * 2 ^ ((M - L) * n).toNat)) L M n ds k
  two : ∀ ds', ds'.length = ds.length → InPre (x.fdiv (2 ^ ((M - L) * n).toNat)) M R n ds' k
  s0 : 0 ≤ (M - L) * n
  sh : (Builtin.Int.intBits (x.fdiv (2 ^ ((M - L) * n).toNat)) : Int) + (M - L) * n ≤ 2 ^ 27
  ml : IntMulOk (M - L) n
  len : (setD ds L.toNat (digs n.toNat (M - L).toNat (Builtin.bitXor x (x.fdiv (2 ^ ((M - L) * n).toNat) * 2 ^ ((M - L) * n).toNat)))).length = ds.length
  fin : setD (setD ds L.toNat (digs n.toNat (M - L).toNat (Builtin.bitXor x (x.fdiv (2 ^ ((M - L) * n).toNat) * 2 ^ ((M - L) * n).toNat)))) M.toNat (digs n.toNat (R - M).toNat (x.fdiv (2 ^ ((M - L) * n).toNat))) = setD ds L.toNat (digs n.toNat (R - L).toNat x)
theorem in_mid {x L R n : Int} {ds : List Int} {k : Nat} (H : InPre x L R n ds (k + 1)) (h : ¬ L + 1 = R) : InMid x L R n ((L + R).fdiv (2 ^ (1 : Int).toNat)) ds k := by
  have hM : (L + R).fdiv (2 ^ (1 : Int).toNat) = (L + R) / 2 := fdiv_pow (L + R) 1
  rw [hM]
  obtain ⟨x0, x1, L0, LR, Rd, rk, d64, n0, n1⟩ := H
  have e2 : (2 : Int) ^ (k + 1) = 2 * 2 ^ k := by rw [Int.pow_succ, Int.mul_comm]
  rw [e2] at rk
  obtain ⟨M, rfl⟩ : ∃ M, M = (L + R) / 2 := ⟨_, rfl⟩
  generalize hMd : (L + R) / 2 = M at *
  have h1 : L < M := by omega
  have h2 : M < R := by omega
  have h3 : M - L ≤ 2 ^ k := by omega
  have h4 : R - M ≤ 2 ^ k := by omega
  obtain ⟨a, ha⟩ : ∃ a : Nat, M - L = a := ⟨(M - L).toNat, by omega⟩
  obtain ⟨b, hb⟩ : ∃ b : Nat, R - M = b := ⟨(R - M).toNat, by omega⟩
  obtain ⟨N, hN⟩ : ∃ N : Nat, n = N := ⟨n.toNat, by omega⟩
  have ha' : (M - L).toNat = a := by omega
  have hb' : (R - M).toNat = b := by omega
  have hab : (R - L).toNat = a + b := by omega
  have hs : ((M - L) * n).toNat = N * a := by rw [ha, hN, ← Int.natCast_mul, Int.toNat_natCast, Nat.mul_comm]
  have hn : n.toNat = N := by omega
  have hL : M.toNat = L.toNat + a := by omega
  have hP := two_pos (N * a)
  rw [hab, hn, Nat.mul_add, Int.pow_add] at x1
  have hu : x.fdiv (2 ^ ((M - L) * n).toNat) = x / 2 ^ (N * a) := by rw [hs, fdiv_pow]
  have hlow : Builtin.bitXor x (x.fdiv (2 ^ ((M - L) * n).toNat) * 2 ^ ((M - L) * n).toNat) = x % 2 ^ (N * a) := by rw [hs, fdiv_pow]; exact bxor_low (N * a) x
  have l0 := Int.emod_nonneg x (Int.ne_of_gt hP)
  have l1 := Int.emod_lt_of_pos x hP
  have u0 : 0 ≤ x / 2 ^ (N * a) := Int.ediv_nonneg x0 (Int.le_of_lt hP)
  have u1 : x / 2 ^ (N * a) < 2 ^ (N * b) := Int.ediv_lt_of_lt_mul hP (by rw [Int.mul_comm]; exact x1)
  have aNb : N * b ≤ 20000 * 64 := Nat.mul_le_mul (by omega) (by omega)
  have aNa : N * a ≤ 20000 * 64 := Nat.mul_le_mul (by omega) (by omega)
  have hsv : (M - L) * n = ((N * a : Nat) : Int) := by rw [ha, hN, ← Int.natCast_mul, Nat.mul_comm]
  have lenD := digs_length N a (x % 2 ^ (N * a))
  refine ⟨⟨by rw [hlow]; exact l0, by rw [hlow, ha', hn]; exact l1, L0, h1, by omega, h3, d64, n0, n1⟩,
    fun ds' e => ⟨by rw [hu]; exact u0, by rw [hu, hb', hn]; exact u1, by omega, h2, by omega, h4, by omega, n0, n1⟩, by rw [hsv]; omega, ?_, ?_, ?_, ?_⟩
  · rw [hu, hsv]
    exact bits_sh u0 u1 (by omega) (by omega)
  · exact IntMulOk.of_left (intBits_le_64 (by omega) (by omega))
  · rw [hlow, ha', hn]
    exact setD_length (by rw [lenD]; omega)
  · rw [hlow, hu, ha', hn, hb', hab, hL]
    rw [digs_append N a b x]
    conv => lhs; rw [show L.toNat + a = L.toNat + (digs N a (x % 2 ^ (N * a))).length by rw [lenD]]
    exact setD_setD (by rw [lenD]; omega)
theorem in_leaf {x L R n : Int} {ds : List Int} {k : Nat} (H : InPre x L R n ds k) (h : L + 1 = R) : ds.set L.toNat x = setD ds L.toNat (digs n.toNat (R - L).toNat x) := by
  obtain ⟨x0, x1, L0, LR, Rd, rk, d64, n0, n1⟩ := H
  have e : (R - L).toNat = 1 := by omega
  rw [e, Nat.mul_one] at x1
  rw [e, digs_one x0 x1]
  exact setD_one (by omega)
theorem in_last {x L R n : Int} {ds : List Int} (H : InPre x L R n ds 0) : L + 1 = R := by
  have := H.rk; have := H.LR
  simp at *
  omega
end
-- LT
theorem again_LT : True := by w_top off; (try walk1); trivial
section
inductive Tab (line col : Nat) (qual : Str) : Obj → Addr × Obj → Prop
  | none (k : Addr × Obj) : Tab line col qual (tabObj #[]) k
  | one (c : Addr) (oc : Obj) (vs : Array Value) (t : Tok) : oc.data = .fields vs → vs[1]? = some (.str qual t) → Tab line col qual (tabObj #[rawInt line, rawInt col, .ref c]) (c, oc)
section
variable {M : Model} {A : Around} {E : Value → Shared → Prop} {s : Shared} {h₀ : Heap} {L a c P : Addr} {m mg mb : Str → Option Value} {cn : Str} {cs : Scope} {ccd : Value} {cl : List (Str × Addr)} {pre rest : List (Addr × Obj)} {o : Obj} {k : Addr × Obj}
  {p : Program} {loose : List Str} {mean : ExcName → Option Value} {name qual : Str} {params : Arguments} {body : List Stmt} {scope : Scope} {pos : Pos} {firstLine : Nat} {clos : List (Str × Addr)}
theorem updF_mid {P : Addr} {o : Obj} : ∀ {pre rest : List (Addr × Obj)}, (∀ p ∈ pre, p.1 ≠ P) → (∀ p ∈ rest, p.1 ≠ P) → UpdF P o (pre ++ (P, o) :: rest) (fun o' => pre ++ (P, o') :: rest)
  | [], _, _, h => .head h
  | p :: pre, _, h, h' => .tail (h p (.head _)) (updF_mid (fun q hq => h q (.tail _ hq)) h')
theorem nest_tab {Q : Value → Shared → Prop} (F : Fr h₀ L s.heap m) (N : News h₀ L s.heap (pre ++ (P, o) :: k :: rest)) (T : Top p loose mean mg mb h₀) (C : CodeHd h₀ c P) (hcd : ccd = .ref c)
    (hT : Tab pos.line pos.col qual o k) (hpre : ∀ q ∈ pre, q.1 ≠ P) (hk : k.1 ≠ P) (hrest : ∀ q ∈ rest, q.1 ≠ P) (hpk : ∀ q ∈ pre, q.1 ≠ k.1)
    (hcl : closureFor scope (envX cn cs L a ccd cl) = pure clos)
    (h : ∀ f c' oc vs t ctv doc h' tk, Fr h₀ L h' m → News h₀ L h' ((f, fnMade name qual params body scope clos doc ((mg "__name__").getD .none) c' ctv) :: (pre ++ (P, tabObj #[rawInt pos.line, rawInt pos.col, .ref c']) :: (c', oc) :: rest)) →
      oc.data = .fields vs → vs[1]? = some (.str qual t) → (∀ q ∈ pre ++ (P, o) :: k :: rest, q.1 < f) → @LT.lt Nat _ c' f → (∀ q ∈ pre, @Ne Nat q.1 c') → c' ≠ P → (∀ q ∈ rest, q.1 ≠ k.1 → q.1 ≠ c') → Q (.ref f) { s with heap := h', toks := tk }) :
    wpAny M A (makeFunction name qual params (.stmts body) scope (envX cn cs L a ccd cl) [] [] [] pos firstLine) Q E s := by
  cases hT with
  | none k =>
    refine nest_K F N T C hcd (updF_mid hpre (fun q hq => by
      rcases List.mem_cons.mp hq with rfl | hq
      · exact hk
      · exact hrest q hq)) (by exact True.intro) (by rfl) hcl fun f c' oc vs t ctv doc h' tk F' N' d1 d2 l1 l2 => ?_
    refine h f c' oc vs t ctv doc h' tk F' (fun q hq => ?_) d1 d2 (fun q hq => Nat.lt_trans (l1 q hq) l2) l2 (fun q hq => Nat.ne_of_lt (l1 q (List.mem_append_left _ hq))) (Nat.ne_of_gt (l1 (P, tabObj #[]) (List.mem_append_right _ (.head _)))) (fun q hq _ => Nat.ne_of_lt (l1 q (List.mem_append_right _ (.tail _ (.tail _ hq)))))
    rcases List.mem_cons.mp hq with rfl | hq
    · exact N' _ (.head _)
    · rcases List.mem_append.mp hq with hq | hq
      · exact N' _ (.tail _ (.tail _ (List.mem_append_left _ hq)))
      · rcases List.mem_cons.mp hq with rfl | hq
        · exact N' _ (.tail _ (.tail _ (List.mem_append_right _ (.head _))))
        · rcases List.mem_cons.mp hq with rfl | hq
          · exact N' _ (.tail _ (.head _))
          · exact N' _ (.tail _ (.tail _ (List.mem_append_right _ (.tail _ (.tail _ hq)))))
  | one c' oc vs t d1 d2 =>
    refine nestHit_K F N T C hcd (c' := c') (List.mem_append_right _ (.head _)) (by simp [TriplesOk, rawInt]) (by simp [codeAmong, rawInt]) hcl fun f ctv doc h' tk F' N' l1 => ?_
    exact h f c' oc vs t ctv doc h' tk F' N' d1 d2 l1 (l1 (c', oc) (List.mem_append_right _ (.tail _ (.head _)))) hpk hk (fun _ _ e => e)
end
def isTL (P : Addr) (line col : Nat) (qual : Str) (R : List Int) (k : Addr × Obj) (news : List (Addr × Obj)) (r : Value) (nw : List (Addr × Obj)) : Prop :=
  ∃ l vs o' k', r = .ref l ∧ IntsAre vs R ∧ nw = (l, W.listOf vs.toArray 0) :: (P, o') :: k' :: news ∧ Tab line col qual o' k' ∧ k'.1 ≠ P ∧ (∀ q ∈ news, q.1 < l) ∧ @LT.lt Nat _ P l ∧ @Ne Nat k'.1 l ∧ ∀ q ∈ news, q.1 ≠ k.1 → q.1 ≠ k'.1
theorem ret_isTL {h₀ h' : Heap} {L l c' P : Addr} {m : Str → Option Value} {news nw : List (Addr × Obj)} {k : Addr × Obj} {s : Shared} {Q : Value → Shared → Prop} {R R' : List Int} {vs : List Value} {tk' : Nat} {line col : Nat} {qual : Str} {oc : Obj} {vf : Array Value} {t : Tok}
    (hret : ∀ r news' h' tk', Fr h₀ L h' m → News h₀ L h' news' → isTL P line col qual R k news r news' → Q r { s with heap := h', toks := tk' }) (F : Fr h₀ L h' m) (N : News h₀ L h' nw)
    (hs : ∀ p ∈ (l, W.listOf vs.toArray 0) :: (P, tabObj #[rawInt line, rawInt col, .ref c']) :: (c', oc) :: news, p ∈ nw)
    (hi : IntsAre vs R') (e : R' = R) (d1 : oc.data = .fields vf) (d2 : vf[1]? = some (.str qual t)) (hc : c' ≠ P) (hl : ∀ q ∈ news, q.1 < l) (hP : @LT.lt Nat _ P l) (hcl : @Ne Nat c' l) (hk : ∀ q ∈ news, q.1 ≠ k.1 → q.1 ≠ c') : Q (.ref l) { s with heap := h', toks := tk' } := by
  subst e
  exact hret _ _ h' tk' F (cb_drop N hs) ⟨l, vs, _, (c', oc), rfl, hi, rfl, .one c' oc vf t d1 d2, hc, hl, hP, hcl, hk⟩
section
variable {w : World} {p : Program} {loose : List Str} {mean : ExcName → Option Value} {mg mb : Str → Option Value} {need : Nat} {news nws : List (Addr × Obj)} {f : Addr} {vs : List Value} {kw : List (Str × Value)}
    {dp un : Nat} {gd : Option (List Code)} {cn : Str} {cs : Scope} {a : Addr} {ccd : Value} {cl : List (Str × Addr)} {outer : List Env} {A₀ : Around} {base h₀ : Heap} {L : Addr} {m : Str → Option Value} {s : Shared} {Q E : Value → Shared → Prop}
theorem Spec.useTL {R : List Int} {P : Addr} {line col : Nat} {qual : Str} {k : Addr × Obj} (S : Spec w p loose mean mg mb need nws f vs kw (isTL P line col qual R k news))
    (B : Below A₀ base outer h₀) (F : Fr h₀ L s.heap m) (X : (hd.heap_39 w.params).In h₀) (N : News h₀ L s.heap nws) (T : Top p loose mean mg mb h₀) (hk : cs.kind = .function) (hd : dp + need < recursionLimit) (hu : un + 8 * need < cLine)
    (ret : ∀ l us o' c' oc' h' tk', Fr h₀ L h' m → News h₀ L h' ((l, W.listOf us.toArray 0) :: (P, o') :: (c', oc') :: news) → IntsAre us R → Tab line col qual o' (c', oc') → c' ≠ P → (∀ q ∈ news, q.1 < l) → @LT.lt Nat _ P l → @Ne Nat c' l → (∀ q ∈ news, q.1 ≠ k.1 → q.1 ≠ c') → Q (.ref l) { s with heap := h', toks := tk' }) :
    wpAny (model PySem.Challenge.rw_tl0033_01.row.prog w) (ktrTop dp un gd cn cs L a ccd cl outer) (call (.ref f) vs kw) Q E s :=
  S.use B F X N T hk hd hu fun r nw h' tk' F' N' Pp => by
    obtain ⟨l, us, o', ⟨c', oc'⟩, rfl, hi, rfl, hT, hc, hl, hP, hcl, hkk⟩ := Pp
    exact ret l us o' c' oc' h' tk' F' N' hi hT hc hl hP hcl hkk
end
def isTI (P : Addr) (line col : Nat) (qual : Str) (x : Int) (k : Addr × Obj) (news : List (Addr × Obj)) (r : Value) (nw : List (Addr × Obj)) : Prop :=
  ∃ t o' k', r = .int x t ∧ nw = (P, o') :: k' :: news ∧ Tab line col qual o' k' ∧ k'.1 ≠ P ∧ ∀ q ∈ news, q.1 ≠ k.1 → q.1 ≠ k'.1
theorem ret_isTI {h₀ h' : Heap} {L c' P : Addr} {m : Str → Option Value} {news nw : List (Addr × Obj)} {k : Addr × Obj} {s : Shared} {Q : Value → Shared → Prop} {x y : Int} {tk' : Nat} {line col : Nat} {qual : Str} {oc : Obj} {vf : Array Value} {t u : Tok}
    (hret : ∀ r news' h' tk', Fr h₀ L h' m → News h₀ L h' news' → isTI P line col qual x k news r news' → Q r { s with heap := h', toks := tk' }) (F : Fr h₀ L h' m) (N : News h₀ L h' nw)
    (hs : ∀ p ∈ (P, tabObj #[rawInt line, rawInt col, .ref c']) :: (c', oc) :: news, p ∈ nw)
    (e : y = x) (d1 : oc.data = .fields vf) (d2 : vf[1]? = some (.str qual t)) (hc : c' ≠ P) (hk : ∀ q ∈ news, q.1 ≠ k.1 → q.1 ≠ c') : Q (.int y u) { s with heap := h', toks := tk' } := by
  subst e
  exact hret _ _ h' tk' F (cb_drop N hs) ⟨u, _, (c', oc), rfl, rfl, .one c' oc vf t d1 d2, hc, hk⟩
section
variable {w : World} {p : Program} {loose : List Str} {mean : ExcName → Option Value} {mg mb : Str → Option Value} {need : Nat} {news nws : List (Addr × Obj)} {f : Addr} {vs : List Value} {kw : List (Str × Value)}
    {dp un : Nat} {gd : Option (List Code)} {cn : Str} {cs : Scope} {a : Addr} {ccd : Value} {cl : List (Str × Addr)} {outer : List Env} {A₀ : Around} {base h₀ : Heap} {L : Addr} {m : Str → Option Value} {s : Shared} {Q E : Value → Shared → Prop}
theorem Spec.useTI {x : Int} {P : Addr} {line col : Nat} {qual : Str} {k : Addr × Obj} (S : Spec w p loose mean mg mb need nws f vs kw (isTI P line col qual x k news))
    (B : Below A₀ base outer h₀) (F : Fr h₀ L s.heap m) (X : (hd.heap_39 w.params).In h₀) (N : News h₀ L s.heap nws) (T : Top p loose mean mg mb h₀) (hk : cs.kind = .function) (hd : dp + need < recursionLimit) (hu : un + 8 * need < cLine)
    (ret : ∀ t o' c' oc' h' tk', Fr h₀ L h' m → News h₀ L h' ((P, o') :: (c', oc') :: news) → Tab line col qual o' (c', oc') → c' ≠ P → (∀ q ∈ news, q.1 ≠ k.1 → q.1 ≠ c') → Q (.int x t) { s with heap := h', toks := tk' }) :
    wpAny (model PySem.Challenge.rw_tl0033_01.row.prog w) (ktrTop dp un gd cn cs L a ccd cl outer) (call (.ref f) vs kw) Q E s :=
  S.use B F X N T hk hd hu fun r nw h' tk' F' N' Pp => by
    obtain ⟨t, o', ⟨c', oc'⟩, rfl, rfl, hT, hc, hkk⟩ := Pp
    exact ret t o' c' oc' h' tk' F' N' hT hc hkk
end
end
-- LC5
theorem again_LC5 : True := by w_top off; (try walk1); trivial
section
theorem lay_7 : True := by
  k_with "on:kall" => (fail_if_success (have z9 := off_kall))
  trivial
theorem rep_flat (k : Nat) (v : Value) : (List.replicate k [v]).flatten = List.replicate k v := by
  induction k with
  | zero => rfl
  | succ k ih => rw [List.replicate_succ, List.flatten_cons, ih, List.replicate_succ]; rfl
theorem rep_ints (k : Nat) (t : Tok) : IntsAre (List.replicate k (Value.int 0 t)) (List.replicate k 0) := by
  induction k with
  | zero => exact IntsAre.nil
  | succ k ih => rw [List.replicate_succ, List.replicate_succ]; exact IntsAre.cons _ _ ih
def isSeq (la : Addr) (fixed : List (Addr × Obj)) (ds : List Int) (r : Value) (nw : List (Addr × Obj)) : Prop :=
  r = .none ∧ ∃ vs, IntsAre vs ds ∧ nw = (la, W.listOf vs.toArray 0) :: fixed
theorem ret_isSeq {h₀ h' : Heap} {L la : Addr} {m : Str → Option Value} {fixed nw : List (Addr × Obj)} {s : Shared} {Q : Value → Shared → Prop} {ds ds' : List Int} {vs : List Value} {tk' : Nat}
    (hret : ∀ r nw h' tk', Fr h₀ L h' m → News h₀ L h' nw → isSeq la fixed ds r nw → Q r { s with heap := h', toks := tk' }) (F : Fr h₀ L h' m) (N : News h₀ L h' nw) (hs : ∀ p ∈ (la, W.listOf vs.toArray 0) :: fixed, p ∈ nw) (hi : IntsAre vs ds') (e : ds' = ds) :
    Q .none { s with heap := h', toks := tk' } := by
  subst e
  exact hret _ _ h' tk' F (cb_drop N hs) ⟨rfl, vs, hi, rfl⟩
def InnerC (w : World) (p : Program) (loose : List Str) (mean : ExcName → Option Value) (mg mb : Str → Option Value) (f la : Addr) (fixed : List (Addr × Obj)) (n : Int) (k : Nat) : Prop :=
  ∀ (x L R : Int) (t1 t2 t3 : Tok) (vs : List Value) (ds : List Int), IntsAre vs ds → InPre x L R n ds k →
    Spec w p loose mean mg mb (k + 1) ((la, W.listOf vs.toArray 0) :: fixed) f [.int x t1, .int L t2, .int R t3] [] (isSeq la fixed (setD ds L.toNat (digs n.toNat (R - L).toNat x)))
theorem inner_use {w : World} {p : Program} {loose : List Str} {mean : ExcName → Option Value} {mg mb : Str → Option Value} {h₀ h : Heap} {L f la : Addr} {o FN : Obj} {fixed : List (Addr × Obj)} (n : Int) {G : Prop}
    (N : News h₀ L h ((la, o) :: (f, FN) :: fixed)) (key : ∀ k, InnerC w p loose mean mg mb f la ((f, FN) :: fixed) n k)
    (rest : News h₀ L h ((la, o) :: (f, FN) :: fixed) → (∀ k, InnerC w p loose mean mg mb f la ((f, FN) :: fixed) n k) → G) : G := rest N key
section
variable {w : World} {p : Program} {loose : List Str} {mean : ExcName → Option Value} {mg mb : Str → Option Value} {need : Nat} {news : List (Addr × Obj)} {f la : Addr} {vs : List Value} {kw : List (Str × Value)}
    {dp un : Nat} {gd : Option (List Code)} {cn : Str} {cs : Scope} {a : Addr} {ccd : Value} {cl : List (Str × Addr)} {outer : List Env} {A₀ : Around} {base h₀ : Heap} {L : Addr} {m : Str → Option Value} {s : Shared} {Q E : Value → Shared → Prop}
theorem Spec.useSeq {fixed : List (Addr × Obj)} {ds : List Int} (S : Spec w p loose mean mg mb need news f vs kw (isSeq la fixed ds))
    (B : Below A₀ base outer h₀) (F : Fr h₀ L s.heap m) (X : (hd.heap_39 w.params).In h₀) (N : News h₀ L s.heap news) (T : Top p loose mean mg mb h₀) (hk : cs.kind = .function) (hd : dp + need < recursionLimit) (hu : un + 8 * need < cLine)
    (ret : ∀ us h' tk', Fr h₀ L h' m → News h₀ L h' ((la, W.listOf us.toArray 0) :: fixed) → IntsAre us ds → Q .none { s with heap := h', toks := tk' }) :
    wpAny (model PySem.Challenge.rw_tl0033_01.row.prog w) (ktrTop dp un gd cn cs L a ccd cl outer) (call (.ref f) vs kw) Q E s :=
  S.use B F X N T hk hd hu fun r nw h' tk' F' N' P => by
    obtain ⟨rfl, us, hi, rfl⟩ := P
    exact ret us h' tk' F' N' hi
end
theorem nat_step {P : Nat → Prop} (h : ∀ k, (∀ j, k = j + 1 → P j) → P k) (k : Nat) : P k := by
  induction k with
  | zero => exact h 0 (fun j e => by omega)
  | succ k ih =>
    refine h (k + 1) (fun j e => ?_)
    have : j = k := by omega
    rw [this]; exact ih
section
theorem lay_8 : True := by
  k_with "ite" => ((fail_if_success (have z9 := off_LC5)); (refine stop_here ?_))
  k_with "binaryOp Mult ref int" => ((fail_if_success (have z9 := off_LC5)); (refine stop_here ?_))
  k_with "call ref" => ((fail_if_success (have z9 := off_LC5)); (refine stop_here ?_))
  k_with "call builtin:len" => ((fail_if_success (have z9 := off_LC5)); (k_here; (with_reducible show wpAny _ _ (call (Value.builtin _) [Value.ref _]) _ _ _); k_dflt (refine' kst_len (by k_asm) (by k_mem) (by exact List.length_replicate) (by omega) ?_)))
  k_with "exec FunctionDef" => ((fail_if_success (have z9 := off_LC5)); (refine stop_here ?_))
  trivial
def C_spec_i2d (w : World) (p : Program) (loose : List Str) (mean : ExcName → Option Value) (mg : Str → Option Value) (mb : Str → Option Value) (news : List (Addr × Obj)) (o : Obj) (k : Addr × Obj) (x : Int) (n : Int) (c : Int) (t1 : Tok) (t2 : Tok) (dp : Nat) (un : Nat) (gd : Option (List Code)) (cn : Str) (cs : Scope) (a : Addr) (ccd : Value) (cl : List (Str × Addr)) (outer : List Env) (A₀ : Around) (base : Heap) (h₀ : Heap) (L : Addr) (m : Str → Option Value) (s : Shared) (Q : Value → Shared → Prop) (E : Value → Shared → Prop) (g' : Heap) (L' : Addr) (h' : Heap) (tk' : Nat) : Prop :=
  (Tab 32 4 (Str.ofString "_int2digits.<locals>.inner") o k) →
  (k.1 ≠ 30) →
  (∀ p ∈ news, p.1 ≠ 30) →
  (0 < x) →
  (0 < n) →
  (n ≤ 20000) →
  ((↑(Builtin.Int.intBits x) + n - 1 : Int).fdiv n = c) →
  (0 < c) →
  (c ≤ 64) →
  (x < 2 ^ (n.toNat * c.toNat)) →
  RunC w p loose mean mg mb 9 ((30, o) :: k :: news) 35 (isTL 30 32 4 (Str.ofString "_int2digits.<locals>.inner") (digs n.toNat c.toNat x) k news) (Str.ofString "_int2digits") fb4.1 fb4.2 (.ref 34) [(Str.ofString "a", .int x t1), (Str.ofString "n", .int n t2)] dp un gd cn cs a ccd cl outer A₀ base h₀ L m s Q E g' L' h' tk'
abbrev V_LC5 := (World) × (Program) × (List Str) × (ExcName → Option Value) × (Str → Option Value) × (Str → Option Value) × (List (Addr × Obj)) × (Obj) × (Addr × Obj) × (Int) × (Int) × (Int) × (Tok) × (Tok) × (Nat) × (Nat) × (Option (List Code)) × (Str) × (Scope) × (Addr) × (Value) × (List (Str × Addr)) × (List Env) × (Around) × (Heap) × (Heap) × (Addr) × (Str → Option Value) × (Shared) × (Value → Shared → Prop) × (Value → Shared → Prop) × (Heap) × (Addr) × (Heap) × (Nat)
def D_spec_i2d (v : V_LC5) : Prop := C_spec_i2d v.1 v.2.1 v.2.2.1 v.2.2.2.1 v.2.2.2.2.1 v.2.2.2.2.2.1 v.2.2.2.2.2.2.1 v.2.2.2.2.2.2.2.1 v.2.2.2.2.2.2.2.2.1 v.2.2.2.2.2.2.2.2.2.1 v.2.2.2.2.2.2.2.2.2.2.1 v.2.2.2.2.2.2.2.2.2.2.2.1 v.2.2.2.2.2.2.2.2.2.2.2.2.1 v.2.2.2.2.2.2.2.2.2.2.2.2.2.1 v.2.2.2.2.2.2.2.2.2.2.2.2.2.2.1 v.2.2.2.2.2.2.2.2.2.2.2.2.2.2.2.1 v.2.2.2.2.2.2.2.2.2.2.2.2.2.2.2.2.1 v.2.2.2.2.2.2.2.2.2.2.2.2.2.2.2.2.2.1 v.2.2.2.2.2.2.2.2.2.2.2.2.2.2.2.2.2.2.1 v.2.2.2.2.2.2.2.2.2.2.2.2.2.2.2.2.2.2.2.1 v.2.2.2.2.2.2.2.2.2.2.2.2.2.2.2.2.2.2.2.2.1 v.2.2.2.2.2.2.2.2.2.2.2.2.2.2.2.2.2.2.2.2.2.1 v.2.2.2.2.2.2.2.2.2.2.2.2.2.2.2.2.2.2.2.2.2.2.1 v.2.2.2.2.2.2.2.2.2.2.2.2.2.2.2.2.2.2.2.2.2.2.2.1 v.2.2.2.2.2.2.2.2.2.2.2.2.2.2.2.2.2.2.2.2.2.2.2.2.1 v.2.2.2.2.2.2.2.2.2.2.2.2.2.2.2.2.2.2.2.2.2.2.2.2.2.1 v.2.2.2.2.2.2.2.2.2.2.2.2.2.2.2.2.2.2.2.2.2.2.2.2.2.2.1 v.2.2.2.2.2.2.2.2.2.2.2.2.2.2.2.2.2.2.2.2.2.2.2.2.2.2.2.1 v.2.2.2.2.2.2.2.2.2.2.2.2.2.2.2.2.2.2.2.2.2.2.2.2.2.2.2.2.1 v.2.2.2.2.2.2.2.2.2.2.2.2.2.2.2.2.2.2.2.2.2.2.2.2.2.2.2.2.2.1 v.2.2.2.2.2.2.2.2.2.2.2.2.2.2.2.2.2.2.2.2.2.2.2.2.2.2.2.2.2.2.1 v.2.2.2.2.2.2.2.2.2.2.2.2.2.2.2.2.2.2.2.2.2.2.2.2.2.2.2.2.2.2.2.1 v.2.2.2.2.2.2.2.2.2.2.2.2.2.2.2.2.2.2.2.2.2.2.2.2.2.2.2.2.2.2.2.2.1 v.2.2.2.2.2.2.2.2.2.2.2.2.2.2.2.2.2.2.2.2.2.2.2.2.2.2.2.2.2.2.2.2.2.1 v.2.2.2.2.2.2.2.2.2.2.2.2.2.2.2.2.2.2.2.2.2.2.2.2.2.2.2.2.2.2.2.2.2.2
def VP_LC5 (v : V_LC5) : Prop := D_spec_i2d v
theorem ne_LC5 : Nonempty V_LC5 := ⟨((⟨fun _ _ => 0, { strHash := fun _ => 0, shareClass := fun _ => 0, mergeTok := id, idOf := fun _ => 0, idOfShared := fun _ _ => 0, followText := fun _ => false, idOfImm := fun _ => 0 }⟩ : World), (default : Program), ([] : List Str), (fun _  => none), (fun _  => none), (fun _  => none), ([] : List (Addr × Obj)), (⟨.none, none, .plain, #[]⟩ : Obj), ((0, ⟨.none, none, .plain, #[]⟩) : Addr × Obj), (0 : Int), (0 : Int), (0 : Int), (0 : Tok), (0 : Tok), (0 : Nat), (0 : Nat), (none : Option (List Code)), (Str.empty : Str), (default : Scope), (0 : Addr), (.none : Value), ([] : List (Str × Addr)), ([] : List Env), ({} : Around), ({} : Heap), ({} : Heap), (0 : Addr), (fun _  => none), ({} : Shared), (fun _ _  => True), (fun _ _  => True), ({} : Heap), (0 : Addr), ({} : Heap), (0 : Nat))⟩
noncomputable def k_LC5 : {v : V_LC5 // VP_LC5 v → ∀ x, VP_LC5 x} := Classical.choice (drink ne_LC5 VP_LC5)
noncomputable def K_LC5.w : World := k_LC5.1.1
noncomputable def K_LC5.p : Program := k_LC5.1.2.1
noncomputable def K_LC5.loose : List Str := k_LC5.1.2.2.1
noncomputable def K_LC5.mean : ExcName → Option Value := k_LC5.1.2.2.2.1
noncomputable def K_LC5.mg : Str → Option Value := k_LC5.1.2.2.2.2.1
noncomputable def K_LC5.mb : Str → Option Value := k_LC5.1.2.2.2.2.2.1
noncomputable def K_LC5.news : List (Addr × Obj) := k_LC5.1.2.2.2.2.2.2.1
noncomputable def K_LC5.o : Obj := k_LC5.1.2.2.2.2.2.2.2.1
noncomputable def K_LC5.k : Addr × Obj := k_LC5.1.2.2.2.2.2.2.2.2.1
noncomputable def K_LC5.x : Int := k_LC5.1.2.2.2.2.2.2.2.2.2.1
noncomputable def K_LC5.n : Int := k_LC5.1.2.2.2.2.2.2.2.2.2.2.1
noncomputable def K_LC5.c : Int := k_LC5.1.2.2.2.2.2.2.2.2.2.2.2.1
noncomputable def K_LC5.t1 : Tok := k_LC5.1.2.2.2.2.2.2.2.2.2.2.2.2.1
noncomputable def K_LC5.t2 : Tok := k_LC5.1.2.2.2.2.2.2.2.2.2.2.2.2.2.1
noncomputable def K_LC5.dp : Nat := k_LC5.1.2.2.2.2.2.2.2.2.2.2.2.2.2.2.1
noncomputable def K_LC5.un : Nat := k_LC5.1.2.2.2.2.2.2.2.2.2.2.2.2.2.2.2.1
noncomputable def K_LC5.gd : Option (List Code) := k_LC5.1.2.2.2.2.2.2.2.2.2.2.2.2.2.2.2.2.1
noncomputable def K_LC5.cn : Str := k_LC5.1.2.2.2.2.2.2.2.2.2.2.2.2.2.2.2.2.2.1
noncomputable def K_LC5.cs : Scope := k_LC5.1.2.2.2.2.2.2.2.2.2.2.2.2.2.2.2.2.2.2.1
noncomputable def K_LC5.a : Addr := k_LC5.1.2.2.2.2.2.2.2.2.2.2.2.2.2.2.2.2.2.2.2.1
noncomputable def K_LC5.ccd : Value := k_LC5.1.2.2.2.2.2.2.2.2.2.2.2.2.2.2.2.2.2.2.2.2.1
noncomputable def K_LC5.cl : List (Str × Addr) := k_LC5.1.2.2.2.2.2.2.2.2.2.2.2.2.2.2.2.2.2.2.2.2.2.1
noncomputable def K_LC5.outer : List Env := k_LC5.1.2.2.2.2.2.2.2.2.2.2.2.2.2.2.2.2.2.2.2.2.2.2.1
noncomputable def K_LC5.A₀ : Around := k_LC5.1.2.2.2.2.2.2.2.2.2.2.2.2.2.2.2.2.2.2.2.2.2.2.2.1
noncomputable def K_LC5.base : Heap := k_LC5.1.2.2.2.2.2.2.2.2.2.2.2.2.2.2.2.2.2.2.2.2.2.2.2.2.1
noncomputable def K_LC5.h₀ : Heap := k_LC5.1.2.2.2.2.2.2.2.2.2.2.2.2.2.2.2.2.2.2.2.2.2.2.2.2.2.1
noncomputable def K_LC5.L : Addr := k_LC5.1.2.2.2.2.2.2.2.2.2.2.2.2.2.2.2.2.2.2.2.2.2.2.2.2.2.2.1
noncomputable def K_LC5.m : Str → Option Value := k_LC5.1.2.2.2.2.2.2.2.2.2.2.2.2.2.2.2.2.2.2.2.2.2.2.2.2.2.2.2.1
noncomputable def K_LC5.s : Shared := k_LC5.1.2.2.2.2.2.2.2.2.2.2.2.2.2.2.2.2.2.2.2.2.2.2.2.2.2.2.2.2.1
noncomputable def K_LC5.Q : Value → Shared → Prop := k_LC5.1.2.2.2.2.2.2.2.2.2.2.2.2.2.2.2.2.2.2.2.2.2.2.2.2.2.2.2.2.2.1
noncomputable def K_LC5.E : Value → Shared → Prop := k_LC5.1.2.2.2.2.2.2.2.2.2.2.2.2.2.2.2.2.2.2.2.2.2.2.2.2.2.2.2.2.2.2.1
noncomputable def K_LC5.g' : Heap := k_LC5.1.2.2.2.2.2.2.2.2.2.2.2.2.2.2.2.2.2.2.2.2.2.2.2.2.2.2.2.2.2.2.2.1
noncomputable def K_LC5.L' : Addr := k_LC5.1.2.2.2.2.2.2.2.2.2.2.2.2.2.2.2.2.2.2.2.2.2.2.2.2.2.2.2.2.2.2.2.2.1
noncomputable def K_LC5.h' : Heap := k_LC5.1.2.2.2.2.2.2.2.2.2.2.2.2.2.2.2.2.2.2.2.2.2.2.2.2.2.2.2.2.2.2.2.2.2.1
noncomputable def K_LC5.tk' : Nat := k_LC5.1.2.2.2.2.2.2.2.2.2.2.2.2.2.2.2.2.2.2.2.2.2.2.2.2.2.2.2.2.2.2.2.2.2.2
section
open K_LC5
theorem c_spec_i2d : C_spec_i2d w p loose mean mg mb news o k x n c t1 t2 dp un gd cn cs a ccd cl outer A₀ base h₀ L m s Q E g' L' h' tk' := by
  unfold C_spec_i2d RunC
  dsimp only [fb4]
  k_fill
  intro hT hk30 h30 hx hn hn2 hc hc0 hc1 hxc cells' B F X N T hk hdp hun hret FG' F' N' Y' B' X' T' l1
  (try k_lt l1)
  k_cells Y'
  (try simp only [List.cons_append, List.nil_append] at N')
  (try dsimp only)
  (try k_lift B')
  (try k_fold)
  have C34 := codeHd_of_K (c := 34) (P := 30) (by assumption) (by kernel_rfl)
  rename (_ ∧ _ ∧ AllLt _ news) => hLall
  obtain ⟨hL30, hkL, hNl⟩ := hLall
  k_steps
  refine Stop.go ?_
  rw [hc]
  (k_dflt (refine' KMa.mul ?F ?N ?l ?lo ?hi ?z (rep_flat _ _) ?_); (case F => k_asm); (case N => k_asm); (case l => is_list); (case lo => omega); (case hi => omega); (case z => (simp only [List.length_cons, List.length_nil]; omega)))
  intro D1 hD1 FD1 ND1 l1
  (try k_lt l1)
  (try k_sweep)
  k_steps
  refine Stop.go ?_
  k_dflt (refine' nestDef_K ?d0 ?k0 ?a0 ?_; (case d0 => exact rfl); (case k0 => exact rfl); (case a0 => exact rfl))
  rename News _ _ _ _ => NF
  rename Fr _ _ _ _ => FF
  k_dflt (refine' nest_tab (pre := [_, _, _, _, _]) FF (show News _ _ _ ([_, _, _, _, _] ++ (30, o) :: k :: news) from NF) ?T ?C rfl hT ?pp hk30 h30 ?pk rfl ?_)
  (case T => k_asm)
  (case C => kn_code)
  (case pp => exact List.forall_mem_cons.mpr ⟨neN (by dsimp only; omega), List.forall_mem_cons.mpr ⟨neN (by dsimp only; omega), List.forall_mem_cons.mpr ⟨neN (by dsimp only; omega), List.forall_mem_cons.mpr ⟨neN (by dsimp only; omega), List.forall_mem_cons.mpr ⟨neN (by dsimp only; omega), List.forall_mem_nil _⟩⟩⟩⟩⟩)
  (case pk => exact List.forall_mem_cons.mpr ⟨neN (by dsimp only; omega), List.forall_mem_cons.mpr ⟨neN (by dsimp only; omega), List.forall_mem_cons.mpr ⟨neN (by dsimp only; omega), List.forall_mem_cons.mpr ⟨neN (by dsimp only; omega), List.forall_mem_cons.mpr ⟨neN (by dsimp only; omega), List.forall_mem_nil _⟩⟩⟩⟩⟩)
  intro f9 c9 oc9 vs9 t9 ct9 dc9 h9 tk9 F9 N9 d91 d92 lt9 lc9 ne9 nc9 nr9
  simp only [List.cons_append, List.nil_append] at N9 lt9
  simp only [List.forall_mem_cons, List.not_mem_nil, false_implies, implies_true, and_true] at ne9
  k_lt lt9
  (try dsimp only)
  k_steps
  refine Stop.go ?_
  rw [if_pos (by rw [bne_iff_ne]; omega)]
  rename News _ _ _ _ => NA
  have NB := cb_drop NA (List.forall_mem_cons.mpr ⟨.tail _ (.head _), List.forall_mem_cons.mpr ⟨.head _, List.forall_mem_cons.mpr ⟨.tail _ (.tail _ (.tail _ (.head _))), List.forall_mem_cons.mpr ⟨.tail _ (.tail _ (.tail _ (.tail _ (.head _)))), List.forall_mem_cons.mpr ⟨.tail _ (.tail _ (.tail _ (.tail _ (.tail _ (.head _))))), List.forall_mem_cons.mpr ⟨.tail _ (.tail _ (.tail _ (.tail _ (.tail _ (.tail _ (.head _)))))), List.forall_mem_cons.mpr ⟨.tail _ (.tail _ (.tail _ (.tail _ (.tail _ (.tail _ (.tail _ (.head _))))))), fun p hp => .tail _ (.tail _ (.tail _ (.tail _ (.tail _ (.tail _ (.tail _ (.tail _ hp)))))))⟩⟩⟩⟩⟩⟩⟩)
  clear NA
  refine inner_use (w := w) (p := p) (loose := loose) (mean := mean) (mg := mg) (mb := mb) n NB ?_ ?_
  · clear NB
    refine nat_step fun k ih => ?_
    unfold InnerC Spec
    intro x8 L8 R8 s1 s2 s3 vs8 ds8 hi8 H8 dp un gd cn cs a ccd cl outer A₀ base h₀ L m s Q E B F X N T hk hdp hun hret
    refine wpAny_call ?_
    k_dflt (refine' code_nest (binds := [(Str.ofString "x", .int x8 s1), (Str.ofString "L", .int L8 s2), (Str.ofString "R", .int R8 s3)]) ?k1 ?k2 ?k3 ?k4 ?k5 ?kA ?kF ?kK ?k6 ?k7 ?k8 ?k9 ?kB ?_ ?c2 ?c3 ?c4 ?c5; (case kA => exact rfl); (case kF => exact rfl); (case kK => assumption); (case k1 => k_asm); (case k2 => k_asm); (case k3 => k_asm); (case k4 => k_asm); (case k5 => k_asm); (case k6 => k_mem); (case k7 => exact codeRec_news (by k_asm) (by k_mem) (by assumption) (by assumption)); (case k8 => ktr_room); (case k9 => exact BindsTo.of_eq rfl); (case c5 => decide); (case kB => exact locs rfl); (case c2 => exact rfl); (case c3 => exact rfl); (case c4 => exact rfl); k_whole)
    intro g' L' h' FG' F' N' B' X' T'
    (try dsimp only)
    (try dsimp only [List.reverse, List.reverseAux, List.lookup] at F')
    (try k_lift B')
    (try k_fold)
    have hL0 := H8.L0
    have hLR := H8.LR
    have hRd := H8.Rd
    have hd64 := H8.d64
    have hLd : L8 < ds8.length := by omega
    k_steps
    refine Stop.go ?_
    split
    · rename ((_ == _) = true) => hq
      have e := eq_of_beq hq
      k_steps
      refine' ret_isSeq ?e0 ?e1 ?e2 ?e3 ?e4 (in_leaf H8 e)
      (case e0 => assumption)
      (case e1 => k_asm)
      (case e2 => k_asm)
      (case e3 => walk_at "my:sub")
      (case e4 => assumption)
    · rename (¬ ((_ == _) = true)) => hq
      have e : ¬ L8 + 1 = R8 := fun e => hq (beq_iff_eq.mpr e)
      obtain ⟨j, rfl⟩ : ∃ j, k = j + 1 := by
        cases k with
        | zero => exact absurd (in_last H8) e
        | succ j => exact ⟨j, rfl⟩
      have IH := ih j rfl
      clear ih
      have M8 := in_mid H8 e
      have m1 := M8.s0
      have m2 := M8.sh
      have m3 := M8.ml
      k_steps
      refine Stop.go ?_
      k_dflt (refine' Spec.useSeq (IH _ _ _ _ _ _ _ _ hi8 M8.one) ?k1 ?k2 ?k3 ?k4 ?k5 ?kK ?kd ?ku ?_)
      walk_at "my:use"
      intro us1 hh1 tk1 F1 N1 hi1
      (try dsimp only)
      k_steps
      refine Stop.go ?_
      k_dflt (refine' Spec.useSeq (IH _ _ _ _ _ _ _ _ hi1 (M8.two _ M8.len)) ?k1 ?k2 ?k3 ?k4 ?k5 ?kK ?kd ?ku ?_)
      walk_at "my:use"
      intro us2 hh2 tk2 F2 N2 hi2
      (try dsimp only)
      k_steps
      refine' ret_isSeq ?e0 ?e1 ?e2 ?e3 ?e4 M8.fin
      (case e0 => assumption)
      (case e1 => k_asm)
      (case e2 => k_asm)
      (case e3 => walk_at "my:sub")
      (case e4 => assumption)
  · intro NB INN
    (try dsimp only)
    (try k_fold)
    k_steps
    refine Stop.go ?_
    have hcc : ((c.toNat : Nat) : Int) = c := by omega
    k_dflt (refine' Spec.useSeq (INN 6 _ _ _ _ _ _ _ _ (rep_ints c.toNat _) ?pre) ?k1 ?k2 ?k3 ?k4 ?k5 ?kK ?kd ?ku ?_)
    (case pre => exact ⟨by omega, by rw [hcc, Int.sub_zero]; exact hxc, by decide, by omega, by simp, by rw [hcc]; simpa using hc1, by rw [List.length_replicate]; omega, hn, hn2⟩)
    walk_at "my:use"
    intro us1 hh1 tk1 F1 N1 hi1
    (try dsimp only)
    k_steps
    refine' ret_isTL ?e0 ?e1 ?e2 ?e3 hi1 ?e4 d91 d92 nc9 ?e5 ?e6 ?e7 ?e8
    (case e0 => assumption)
    (case e1 => k_asm)
    (case e2 => k_asm)
    (case e3 => exact List.forall_mem_cons.mpr ⟨.head _, List.forall_mem_cons.mpr ⟨.tail _ (.tail _ (.tail _ (.tail _ (.tail _ (.head _))))), List.forall_mem_cons.mpr ⟨.tail _ (.tail _ (.tail _ (.tail _ (.tail _ (.tail _ (.head _)))))), fun p hp => .tail _ (.tail _ (.tail _ (.tail _ (.tail _ (.tail _ (.tail _ hp))))))⟩⟩⟩)
    (case e4 => rw [hcc, Int.sub_zero]; exact setD_all (by rw [digs_length, List.length_replicate]))
    (case e5 => exact ktn_ltOf l1.2.2.2.2.2.2)
    (case e6 => exact l1.2.2.2.2.1)
    (case e7 => exact Ne.symm ne9.1)
    (case e8 => exact nr9)
end
theorem all_LC5 : ∀ v, VP_LC5 v := k_LC5.2 c_spec_i2d
section
variable (w : World) (p : Program) (loose : List Str) (mean : ExcName → Option Value) (mg mb : Str → Option Value)
theorem spec_i2d (news : List (Addr × Obj)) (o : Obj) (k : Addr × Obj) (hT : Tab 32 4 (Str.ofString "_int2digits.<locals>.inner") o k) (hk30 : k.1 ≠ 30) (h30 : ∀ p ∈ news, p.1 ≠ 30) (x n c : Int) (t1 t2 : Tok) (hx : 0 < x) (hn : 0 < n) (hn2 : n ≤ 20000) (hc : (↑(Builtin.Int.intBits x) + n - 1 : Int).fdiv n = c) (hc0 : 0 < c) (hc1 : c ≤ 64) (hxc : x < 2 ^ (n.toNat * c.toNat)) :
    Spec w p loose mean mg mb 9 ((30, o) :: k :: news) 35 [.int x t1, .int n t2] [] (isTL 30 32 4 (Str.ofString "_int2digits.<locals>.inner") (digs n.toNat c.toNat x) k news) := by
  refine' spec_bodyC (qual := Str.ofString "_int2digits") (body := fb4.1) (scope := fb4.2) (cdv := .ref 34) (binds := [(Str.ofString "a", .int x t1), (Str.ofString "n", .int n t2)]) (fun z0 z1 z2 z3 z4 z5 z6 z7 z8 z9 z10 z11 z12 z13 z14 z15 z16 z17 z18 z19 z20 => (all_LC5 (w, p, loose, mean, mg, mb, news, o, k, x, n, c, t1, t2, z0, z1, z2, z3, z4, z5, z6, z7, z8, z9, z10, z11, z12, z13, z14, z15, z16, z17, z18, z19, z20)) hT hk30 h30 hx hn hn2 hc hc0 hc1 hxc) ?ho ?hcd ?h1 ?hb ?hl ?hn ?c1 ?c2 ?c3
  (case c1 => exact rfl); (case c2 => exact rfl); (case c3 => exact rfl)
  (case ho => k_is)
  (case hcd => k_is)
  (case h1 => omega)
  (case hb => exact fun _ _ _ _ _ _ => BindsTo.of_eq rfl)
  (case hl => exact rfl)
  (case hn => decide +kernel)
end
end
end
theorem off_LC5 : True := trivial
-- LM5
theorem again_LM5 : True := by w_top off; (try walk1); trivial
section
noncomputable def undig (n : Nat) : List Int → Int
  | [] => 0
  | d :: r => d + 2 ^ n * undig n r
theorem undig_append (n : Nat) : ∀ a b : List Int, undig n (a ++ b) = undig n a + 2 ^ (n * a.length) * undig n b
  | [], b => by simp [undig]
  | d :: a, b => by
    rw [List.cons_append, undig, undig, undig_append n a b, List.length_cons, Nat.mul_add, Nat.mul_one, Nat.add_comm, Int.pow_add]
    grind
def Digs (n : Nat) (ds : List Int) : Prop := ∀ d ∈ ds, 0 ≤ d ∧ d < 2 ^ n
theorem undig_bound {n : Nat} : ∀ {ds : List Int}, Digs n ds → 0 ≤ undig n ds ∧ undig n ds < 2 ^ (n * ds.length)
  | [], _ => by simp [undig]
  | d :: r, h => by
    have hd := h d (.head _)
    have ih := undig_bound (ds := r) fun x hx => h x (.tail _ hx)
    have hP := two_pos n
    rw [undig, List.length_cons, Nat.mul_add, Nat.mul_one, Nat.add_comm, Int.pow_add]
    have h1 : 2 ^ n * undig n r ≤ 2 ^ n * (2 ^ (n * r.length) - 1) := Int.mul_le_mul_of_nonneg_left (by omega) (Int.le_of_lt hP)
    have h2 := Int.mul_nonneg (Int.le_of_lt hP) ih.1
    rw [Int.mul_sub, Int.mul_one] at h1
    omega
theorem digs_undig {n : Nat} : ∀ {m : Nat} {x : Int}, 0 ≤ x → x < 2 ^ (n * m) → undig n (digs n m x) = x
  | 0, x, h0, h1 => by
    rw [Nat.mul_zero, Int.pow_zero] at h1
    rw [digs, undig]; omega
  | m + 1, x, h0, h1 => by
    have hP := two_pos n
    rw [Nat.mul_add, Nat.mul_one, Int.pow_add] at h1
    rw [digs, undig, digs_undig (Int.ediv_nonneg h0 (Int.le_of_lt hP)) (Int.ediv_lt_of_lt_mul hP h1)]
    exact Int.emod_add_mul_ediv x _
theorem digs_Digs (n : Nat) : ∀ (m : Nat) (x : Int), Digs n (digs n m x)
  | 0, _, d, h => nomatch h
  | m + 1, x, d, h => by
    rcases List.mem_cons.mp h with rfl | h
    · exact ⟨Int.emod_nonneg _ (Int.ne_of_gt (two_pos n)), Int.emod_lt_of_pos _ (two_pos n)⟩
    · exact digs_Digs n m _ d h
noncomputable def segD (ds : List Int) (L R : Int) : List Int := (ds.drop L.toNat).take (R - L).toNat
structure UnPre (L R n : Int) (ds : List Int) (k : Nat) : Prop where
  L0 : 0 ≤ L
  LR : L < R
  Rd : R ≤ ds.length
  rk : R - L ≤ 2 ^ k
  d64 : ds.length ≤ 64
  n0 : 0 < n
  n1 : n ≤ 20000
  dd : Digs n.toNat ds
structure UnMid (L R n M : Int) (ds : List Int) (k : Nat) : Prop where
  one : UnPre M R n ds k
  two : UnPre L M n ds k
  s0 : 0 ≤ (M - L) * n
  sh : (Builtin.Int.intBits (undig n.toNat (segD ds M R)) : Int) + (M - L) * n ≤ 2 ^ 27
  ml : IntMulOk (M - L) n
  fin : undig n.toNat (segD ds M R) * 2 ^ ((M - L) * n).toNat + undig n.toNat (segD ds L M) = undig n.toNat (segD ds L R)
theorem un_mid {L R n : Int} {ds : List Int} {k : Nat} (H : UnPre L R n ds (k + 1)) (h : ¬ L + 1 = R) : UnMid L R n ((L + R).fdiv (2 ^ (1 : Int).toNat)) ds k := by
  have hM : (L + R).fdiv (2 ^ (1 : Int).toNat) = (L + R) / 2 := fdiv_pow (L + R) 1
  rw [hM]
  obtain ⟨L0, LR, Rd, rk, d64, n0, n1, dd⟩ := H
  have e2 : (2 : Int) ^ (k + 1) = 2 * 2 ^ k := by rw [Int.pow_succ, Int.mul_comm]
  rw [e2] at rk
  generalize hMd : (L + R) / 2 = M at *
  have h1 : L < M := by omega
  have h2 : M < R := by omega
  obtain ⟨a, ha⟩ : ∃ a : Nat, M - L = a := ⟨(M - L).toNat, by omega⟩
  obtain ⟨b, hb⟩ : ∃ b : Nat, R - M = b := ⟨(R - M).toNat, by omega⟩
  obtain ⟨N, hN⟩ : ∃ N : Nat, n = N := ⟨n.toNat, by omega⟩
  have ha' : (M - L).toNat = a := by omega
  have hb' : (R - M).toNat = b := by omega
  have hab : (R - L).toNat = a + b := by omega
  have hs : ((M - L) * n).toNat = N * a := by rw [ha, hN, ← Int.natCast_mul, Int.toNat_natCast, Nat.mul_comm]
  have hn : n.toNat = N := by omega
  have hL : M.toNat = L.toNat + a := by omega
  have hsv : (M - L) * n = ((N * a : Nat) : Int) := by rw [ha, hN, ← Int.natCast_mul, Nat.mul_comm]
  have aNb : N * b ≤ 20000 * 64 := Nat.mul_le_mul (by omega) (by omega)
  have aNa : N * a ≤ 20000 * 64 := Nat.mul_le_mul (by omega) (by omega)
  have hdd : Digs N (segD ds M R) := fun d hd => hn ▸ dd d (List.mem_of_mem_drop (List.mem_of_mem_take hd))
  obtain ⟨u0, u1⟩ := undig_bound hdd
  have lenM : (segD ds M R).length = b := by unfold segD; rw [List.length_take, List.length_drop]; omega
  have lenL : (segD ds L M).length = a := by unfold segD; rw [List.length_take, List.length_drop]; omega
  refine ⟨⟨by omega, h2, by omega, by omega, d64, n0, n1, dd⟩, ⟨L0, h1, by omega, by omega, d64, n0, n1, dd⟩, by rw [hsv]; omega, ?_, IntMulOk.of_left (intBits_le_64 (by omega) (by omega)), ?_⟩
  · rw [hsv, hn]
    rw [lenM] at u1
    exact bits_sh u0 u1 (by omega) (by omega)
  · have e : segD ds L R = segD ds L M ++ segD ds M R := by
      unfold segD
      rw [hab, ha', hb', hL, List.take_add, List.drop_drop]
    rw [hs, hn, e, undig_append, lenL, Int.mul_comm]
    omega
theorem un_leaf {L R n : Int} {ds : List Int} {k : Nat} (H : UnPre L R n ds k) (h : L + 1 = R) : ds.getD L.toNat 0 = undig n.toNat (segD ds L R) := by
  obtain ⟨L0, LR, Rd, rk, d64, n0, n1, dd⟩ := H
  have e : (R - L).toNat = 1 := by omega
  have hl : L.toNat < ds.length := by omega
  unfold segD
  rw [e, List.drop_eq_getElem_cons hl, List.take_succ_cons, List.take_zero, undig, undig, List.getD_eq_getElem?_getD, List.getElem?_eq_getElem hl, Option.getD_some, Int.mul_zero, Int.add_zero]
theorem un_last {L R n : Int} {ds : List Int} (H : UnPre L R n ds 0) : L + 1 = R := by
  have := H.rk; have := H.LR
  simp at *
  omega
theorem un_all {n : Nat} {ds : List Int} : segD ds 0 (ds.length : Int) = ds := by
  unfold segD
  simp
end
-- LC6
theorem again_LC6 : True := by w_top off; (try walk1); trivial
section
theorem lay_9 : True := by
  k_with "on:kmem" => (fail_if_success (have z9 := off_kall))
  trivial
def InnerI (w : World) (p : Program) (loose : List Str) (mean : ExcName → Option Value) (mg mb : Str → Option Value) (f : Addr) (fixed : List (Addr × Obj)) (n : Int) (ds : List Int) (k : Nat) : Prop :=
  ∀ (L R : Int) (t2 t3 : Tok), UnPre L R n ds k → Spec w p loose mean mg mb (k + 1) fixed f [.int L t2, .int R t3] [] (isI (undig n.toNat (segD ds L R)) fixed)
theorem innerI_use {w : World} {p : Program} {loose : List Str} {mean : ExcName → Option Value} {mg mb : Str → Option Value} {h₀ h : Heap} {L f : Addr} {FN : Obj} {fixed : List (Addr × Obj)} (n : Int) (ds : List Int) {G : Prop}
    (N : News h₀ L h ((f, FN) :: fixed)) (key : ∀ k, InnerI w p loose mean mg mb f ((f, FN) :: fixed) n ds k)
    (rest : News h₀ L h ((f, FN) :: fixed) → (∀ k, InnerI w p loose mean mg mb f ((f, FN) :: fixed) n ds k) → G) : G := rest N key
section
theorem lay_10 : True := by
  k_with "ite" => ((fail_if_success (have z9 := off_LC6)); (refine stop_here ?_))
  k_with "call ref" => ((fail_if_success (have z9 := off_LC6)); (refine stop_here ?_))
  k_with "exec FunctionDef" => ((fail_if_success (have z9 := off_LC6)); (refine stop_here ?_))
  k_with "call builtin:len" => ((fail_if_success (have z9 := off_LC6)); (k_here; (with_reducible show wpAny _ _ (call (Value.builtin _) [Value.ref _]) _ _ _); k_dflt (refine' kst_len (by k_asm) (by k_mem) (by exact IntsAre.length (by assumption)) (by omega) ?_)))
  k_with "truthy ref" => ((fail_if_success (have z9 := off_LC6)); (refine stop_here ?_))
  trivial
def C_spec_d2i (w : World) (p : Program) (loose : List Str) (mean : ExcName → Option Value) (mg : Str → Option Value) (mb : Str → Option Value) (news : List (Addr × Obj)) (o : Obj) (k : Addr × Obj) (l : Addr) (vs : List Value) (nn : Nat) (ds : List Int) (n : Int) (t2 : Tok) (dp : Nat) (un : Nat) (gd : Option (List Code)) (cn : Str) (cs : Scope) (a : Addr) (ccd : Value) (cl : List (Str × Addr)) (outer : List Env) (A₀ : Around) (base : Heap) (h₀ : Heap) (L : Addr) (m : Str → Option Value) (s : Shared) (Q : Value → Shared → Prop) (E : Value → Shared → Prop) (g' : Heap) (L' : Addr) (h' : Heap) (tk' : Nat) : Prop :=
  (Tab 47 4 (Str.ofString "_digits2int.<locals>.inner") o k) →
  (k.1 ≠ 37) →
  (∀ p ∈ news, p.1 ≠ 37) →
  ((l, W.listOf vs.toArray nn) ∈ news) →
  (IntsAre vs ds) →
  (0 < ds.length) →
  (ds.length ≤ 64) →
  (0 < n) →
  (n ≤ 20000) →
  (Digs n.toNat ds) →
  RunC w p loose mean mg mb 9 ((37, o) :: k :: news) 42 (isTI 37 47 4 (Str.ofString "_digits2int.<locals>.inner") (undig n.toNat ds) k news) (Str.ofString "_digits2int") fb5.1 fb5.2 (.ref 41) [(Str.ofString "digits", .ref l), (Str.ofString "n", .int n t2)] dp un gd cn cs a ccd cl outer A₀ base h₀ L m s Q E g' L' h' tk'
abbrev V_LC6 := (World) × (Program) × (List Str) × (ExcName → Option Value) × (Str → Option Value) × (Str → Option Value) × (List (Addr × Obj)) × (Obj) × (Addr × Obj) × (Addr) × (List Value) × (Nat) × (List Int) × (Int) × (Tok) × (Nat) × (Nat) × (Option (List Code)) × (Str) × (Scope) × (Addr) × (Value) × (List (Str × Addr)) × (List Env) × (Around) × (Heap) × (Heap) × (Addr) × (Str → Option Value) × (Shared) × (Value → Shared → Prop) × (Value → Shared → Prop) × (Heap) × (Addr) × (Heap) × (Nat)
def D_spec_d2i (v : V_LC6) : Prop := C_spec_d2i v.1 v.2.1 v.2.2.1 v.2.2.2.1 v.2.2.2.2.1 v.2.2.2.2.2.1 v.2.2.2.2.2.2.1 v.2.2.2.2.2.2.2.1 v.2.2.2.2.2.2.2.2.1 v.2.2.2.2.2.2.2.2.2.1 v.2.2.2.2.2.2.2.2.2.2.1 v.2.2.2.2.2.2.2.2.2.2.2.1 v.2.2.2.2.2.2.2.2.2.2.2.2.1 v.2.2.2.2.2.2.2.2.2.2.2.2.2.1 v.2.2.2.2.2.2.2.2.2.2.2.2.2.2.1 v.2.2.2.2.2.2.2.2.2.2.2.2.2.2.2.1 v.2.2.2.2.2.2.2.2.2.2.2.2.2.2.2.2.1 v.2.2.2.2.2.2.2.2.2.2.2.2.2.2.2.2.2.1 v.2.2.2.2.2.2.2.2.2.2.2.2.2.2.2.2.2.2.1 v.2.2.2.2.2.2.2.2.2.2.2.2.2.2.2.2.2.2.2.1 v.2.2.2.2.2.2.2.2.2.2.2.2.2.2.2.2.2.2.2.2.1 v.2.2.2.2.2.2.2.2.2.2.2.2.2.2.2.2.2.2.2.2.2.1 v.2.2.2.2.2.2.2.2.2.2.2.2.2.2.2.2.2.2.2.2.2.2.1 v.2.2.2.2.2.2.2.2.2.2.2.2.2.2.2.2.2.2.2.2.2.2.2.1 v.2.2.2.2.2.2.2.2.2.2.2.2.2.2.2.2.2.2.2.2.2.2.2.2.1 v.2.2.2.2.2.2.2.2.2.2.2.2.2.2.2.2.2.2.2.2.2.2.2.2.2.1 v.2.2.2.2.2.2.2.2.2.2.2.2.2.2.2.2.2.2.2.2.2.2.2.2.2.2.1 v.2.2.2.2.2.2.2.2.2.2.2.2.2.2.2.2.2.2.2.2.2.2.2.2.2.2.2.1 v.2.2.2.2.2.2.2.2.2.2.2.2.2.2.2.2.2.2.2.2.2.2.2.2.2.2.2.2.1 v.2.2.2.2.2.2.2.2.2.2.2.2.2.2.2.2.2.2.2.2.2.2.2.2.2.2.2.2.2.1 v.2.2.2.2.2.2.2.2.2.2.2.2.2.2.2.2.2.2.2.2.2.2.2.2.2.2.2.2.2.2.1 v.2.2.2.2.2.2.2.2.2.2.2.2.2.2.2.2.2.2.2.2.2.2.2.2.2.2.2.2.2.2.2.1 v.2.2.2.2.2.2.2.2.2.2.2.2.2.2.2.2.2.2.2.2.2.2.2.2.2.2.2.2.2.2.2.2.1 v.2.2.2.2.2.2.2.2.2.2.2.2.2.2.2.2.2.2.2.2.2.2.2.2.2.2.2.2.2.2.2.2.2.1 v.2.2.2.2.2.2.2.2.2.2.2.2.2.2.2.2.2.2.2.2.2.2.2.2.2.2.2.2.2.2.2.2.2.2.1 v.2.2.2.2.2.2.2.2.2.2.2.2.2.2.2.2.2.2.2.2.2.2.2.2.2.2.2.2.2.2.2.2.2.2.2
def VP_LC6 (v : V_LC6) : Prop := D_spec_d2i v
theorem ne_LC6 : Nonempty V_LC6 := ⟨((⟨fun _ _ => 0, { strHash := fun _ => 0, shareClass := fun _ => 0, mergeTok := id, idOf := fun _ => 0, idOfShared := fun _ _ => 0, followText := fun _ => false, idOfImm := fun _ => 0 }⟩ : World), (default : Program), ([] : List Str), (fun _  => none), (fun _  => none), (fun _  => none), ([] : List (Addr × Obj)), (⟨.none, none, .plain, #[]⟩ : Obj), ((0, ⟨.none, none, .plain, #[]⟩) : Addr × Obj), (0 : Addr), ([] : List Value), (0 : Nat), ([] : List Int), (0 : Int), (0 : Tok), (0 : Nat), (0 : Nat), (none : Option (List Code)), (Str.empty : Str), (default : Scope), (0 : Addr), (.none : Value), ([] : List (Str × Addr)), ([] : List Env), ({} : Around), ({} : Heap), ({} : Heap), (0 : Addr), (fun _  => none), ({} : Shared), (fun _ _  => True), (fun _ _  => True), ({} : Heap), (0 : Addr), ({} : Heap), (0 : Nat))⟩
noncomputable def k_LC6 : {v : V_LC6 // VP_LC6 v → ∀ x, VP_LC6 x} := Classical.choice (drink ne_LC6 VP_LC6)
noncomputable def K_LC6.w : World := k_LC6.1.1
noncomputable def K_LC6.p : Program := k_LC6.1.2.1
noncomputable def K_LC6.loose : List Str := k_LC6.1.2.2.1
noncomputable def K_LC6.mean : ExcName → Option Value := k_LC6.1.2.2.2.1
noncomputable def K_LC6.mg : Str → Option Value := k_LC6.1.2.2.2.2.1
noncomputable def K_LC6.mb : Str → Option Value := k_LC6.1.2.2.2.2.2.1
noncomputable def K_LC6.news : List (Addr × Obj) := k_LC6.1.2.2.2.2.2.2.1
noncomputable def K_LC6.o : Obj := k_LC6.1.2.2.2.2.2.2.2.1
noncomputable def K_LC6.k : Addr × Obj := k_LC6.1.2.2.2.2.2.2.2.2.1
noncomputable def K_LC6.l : Addr := k_LC6.1.2.2.2.2.2.2.2.2.2.1
noncomputable def K_LC6.vs : List Value := k_LC6.1.2.2.2.2.2.2.2.2.2.2.1
noncomputable def K_LC6.nn : Nat := k_LC6.1.2.2.2.2.2.2.2.2.2.2.2.1
noncomputable def K_LC6.ds : List Int := k_LC6.1.2.2.2.2.2.2.2.2.2.2.2.2.1
noncomputable def K_LC6.n : Int := k_LC6.1.2.2.2.2.2.2.2.2.2.2.2.2.2.1
noncomputable def K_LC6.t2 : Tok := k_LC6.1.2.2.2.2.2.2.2.2.2.2.2.2.2.2.1
noncomputable def K_LC6.dp : Nat := k_LC6.1.2.2.2.2.2.2.2.2.2.2.2.2.2.2.2.1
noncomputable def K_LC6.un : Nat := k_LC6.1.2.2.2.2.2.2.2.2.2.2.2.2.2.2.2.2.1
noncomputable def K_LC6.gd : Option (List Code) := k_LC6.1.2.2.2.2.2.2.2.2.2.2.2.2.2.2.2.2.2.1
noncomputable def K_LC6.cn : Str := k_LC6.1.2.2.2.2.2.2.2.2.2.2.2.2.2.2.2.2.2.2.1
noncomputable def K_LC6.cs : Scope := k_LC6.1.2.2.2.2.2.2.2.2.2.2.2.2.2.2.2.2.2.2.2.1
noncomputable def K_LC6.a : Addr := k_LC6.1.2.2.2.2.2.2.2.2.2.2.2.2.2.2.2.2.2.2.2.2.1
noncomputable def K_LC6.ccd : Value := k_LC6.1.2.2.2.2.2.2.2.2.2.2.2.2.2.2.2.2.2.2.2.2.2.1
noncomputable def K_LC6.cl : List (Str × Addr) := k_LC6.1.2.2.2.2.2.2.2.2.2.2.2.2.2.2.2.2.2.2.2.2.2.2.1
noncomputable def K_LC6.outer : List Env := k_LC6.1.2.2.2.2.2.2.2.2.2.2.2.2.2.2.2.2.2.2.2.2.2.2.2.1
noncomputable def K_LC6.A₀ : Around := k_LC6.1.2.2.2.2.2.2.2.2.2.2.2.2.2.2.2.2.2.2.2.2.2.2.2.2.1
noncomputable def K_LC6.base : Heap := k_LC6.1.2.2.2.2.2.2.2.2.2.2.2.2.2.2.2.2.2.2.2.2.2.2.2.2.2.1
noncomputable def K_LC6.h₀ : Heap := k_LC6.1.2.2.2.2.2.2.2.2.2.2.2.2.2.2.2.2.2.2.2.2.2.2.2.2.2.2.1
noncomputable def K_LC6.L : Addr := k_LC6.1.2.2.2.2.2.2.2.2.2.2.2.2.2.2.2.2.2.2.2.2.2.2.2.2.2.2.2.1
noncomputable def K_LC6.m : Str → Option Value := k_LC6.1.2.2.2.2.2.2.2.2.2.2.2.2.2.2.2.2.2.2.2.2.2.2.2.2.2.2.2.2.1
noncomputable def K_LC6.s : Shared := k_LC6.1.2.2.2.2.2.2.2.2.2.2.2.2.2.2.2.2.2.2.2.2.2.2.2.2.2.2.2.2.2.1
noncomputable def K_LC6.Q : Value → Shared → Prop := k_LC6.1.2.2.2.2.2.2.2.2.2.2.2.2.2.2.2.2.2.2.2.2.2.2.2.2.2.2.2.2.2.2.1
noncomputable def K_LC6.E : Value → Shared → Prop := k_LC6.1.2.2.2.2.2.2.2.2.2.2.2.2.2.2.2.2.2.2.2.2.2.2.2.2.2.2.2.2.2.2.2.1
noncomputable def K_LC6.g' : Heap := k_LC6.1.2.2.2.2.2.2.2.2.2.2.2.2.2.2.2.2.2.2.2.2.2.2.2.2.2.2.2.2.2.2.2.2.1
noncomputable def K_LC6.L' : Addr := k_LC6.1.2.2.2.2.2.2.2.2.2.2.2.2.2.2.2.2.2.2.2.2.2.2.2.2.2.2.2.2.2.2.2.2.2.1
noncomputable def K_LC6.h' : Heap := k_LC6.1.2.2.2.2.2.2.2.2.2.2.2.2.2.2.2.2.2.2.2.2.2.2.2.2.2.2.2.2.2.2.2.2.2.2.1
noncomputable def K_LC6.tk' : Nat := k_LC6.1.2.2.2.2.2.2.2.2.2.2.2.2.2.2.2.2.2.2.2.2.2.2.2.2.2.2.2.2.2.2.2.2.2.2.2
section
open K_LC6
theorem c_spec_d2i : C_spec_d2i w p loose mean mg mb news o k l vs nn ds n t2 dp un gd cn cs a ccd cl outer A₀ base h₀ L m s Q E g' L' h' tk' := by
  unfold C_spec_d2i RunC
  dsimp only [fb5]
  k_fill
  intro hT hk37 h37 hl hi hd0 hd64 hn hn2 hdd cells' B F X N T hk hdp hun hret FG' F' N' Y' B' X' T' l1
  (try k_lt l1)
  k_cells Y'
  (try simp only [List.cons_append, List.nil_append] at N')
  (try dsimp only)
  (try k_lift B')
  (try k_fold)
  have C41 := codeHd_of_K (c := 41) (P := 37) (by assumption) (by kernel_rfl)
  rename (_ ∧ _ ∧ AllLt _ news) => hLall
  obtain ⟨hL30, hkL, hNl⟩ := hLall
  k_steps
  refine Stop.go ?_
  k_dflt (refine' nestDef_K ?d0 ?k0 ?a0 ?_; (case d0 => exact rfl); (case k0 => exact rfl); (case a0 => exact rfl))
  rename News _ _ _ _ => NF
  rename Fr _ _ _ _ => FF
  k_dflt (refine' nest_tab (pre := [_, _, _]) FF (show News _ _ _ ([_, _, _] ++ (37, o) :: k :: news) from NF) ?T ?C rfl hT ?pp hk37 h37 ?pk rfl ?_)
  (case T => k_asm)
  (case C => kn_code)
  (case pp => exact List.forall_mem_cons.mpr ⟨neN (by dsimp only; omega), List.forall_mem_cons.mpr ⟨neN (by dsimp only; omega), List.forall_mem_cons.mpr ⟨neN (by dsimp only; omega), List.forall_mem_nil _⟩⟩⟩)
  (case pk => exact List.forall_mem_cons.mpr ⟨neN (by dsimp only; omega), List.forall_mem_cons.mpr ⟨neN (by dsimp only; omega), List.forall_mem_cons.mpr ⟨neN (by dsimp only; omega), List.forall_mem_nil _⟩⟩⟩)
  intro f9 c9 oc9 vs9 t9 ct9 dc9 h9 tk9 F9 N9 d91 d92 lt9 lc9 ne9 nc9 nr9
  simp only [List.cons_append, List.nil_append] at N9 lt9
  simp only [List.forall_mem_cons, List.not_mem_nil, false_implies, implies_true, and_true] at ne9
  k_lt lt9
  (try dsimp only)
  k_steps
  refine Stop.go ?_
  have hlen := hi.length
  have hls : ∀ {h : Heap} {nws : List (Addr × Obj)} {hb : Heap} {Lb : Addr}, News hb Lb h nws → (l, W.listOf vs.toArray nn) ∈ nws → h.IsList l vs.toArray := fun N hm => PySem.IsL.isList (n := nn) (N _ hm).1
  rename News _ _ _ _ => NT
  refine wpAny_truthy_list (hls NT (.tail _ (.tail _ (.tail _ (.tail _ (.tail _ (.tail _ hl))))))) (by rw [List.size_toArray, hlen]; omega) ?_
  (try dsimp only)
  rw [if_pos (by
    have : vs ≠ [] := by intro e; rw [e] at hlen; simp at hlen; omega
    simpa using this)]
  refine innerI_use (w := w) (p := p) (loose := loose) (mean := mean) (mg := mg) (mb := mb) n ds NT ?_ ?_
  · clear NT
    refine nat_step fun k ih => ?_
    unfold InnerI Spec
    intro L8 R8 s2 s3 H8 dp un gd cn cs a ccd cl outer A₀ base h₀ L m s Q E B F X N T hk hdp hun hret
    refine wpAny_call ?_
    k_dflt (refine' code_nest (binds := [(Str.ofString "L", .int L8 s2), (Str.ofString "R", .int R8 s3)]) ?k1 ?k2 ?k3 ?k4 ?k5 ?kA ?kF ?kK ?k6 ?k7 ?k8 ?k9 ?kB ?_ ?c2 ?c3 ?c4 ?c5; (case kA => exact rfl); (case kF => exact rfl); (case kK => assumption); (case k1 => k_asm); (case k2 => k_asm); (case k3 => k_asm); (case k4 => k_asm); (case k5 => k_asm); (case k6 => k_mem); (case k7 => exact codeRec_news (by k_asm) (by k_mem) (by assumption) (by assumption)); (case k8 => ktr_room); (case k9 => exact BindsTo.of_eq rfl); (case c5 => decide); (case kB => exact locs rfl); (case c2 => exact rfl); (case c3 => exact rfl); (case c4 => exact rfl); k_whole)
    intro g' L' h' FG' F' N' B' X' T'
    (try dsimp only)
    (try dsimp only [List.reverse, List.reverseAux, List.lookup] at F')
    (try k_lift B')
    (try k_fold)
    have hL0 := H8.L0
    have hLR := H8.LR
    have hRd := H8.Rd
    have hLd : L8 < ds.length := by omega
    k_steps
    refine Stop.go ?_
    split
    · rename ((_ == _) = true) => hq
      have e := eq_of_beq hq
      k_steps
      refine' ret_isI ?e0 (un_leaf H8 e) ?e2 ?e3 ?e4
      (case e0 => assumption)
      (case e2 => k_asm)
      (case e3 => k_asm)
      (case e4 => walk_at "my:sub")
    · rename (¬ ((_ == _) = true)) => hq
      have e : ¬ L8 + 1 = R8 := fun e => hq (beq_iff_eq.mpr e)
      obtain ⟨j, rfl⟩ : ∃ j, k = j + 1 := by
        cases k with
        | zero => exact absurd (un_last H8) e
        | succ j => exact ⟨j, rfl⟩
      have IH := ih j rfl
      clear ih
      have M8 := un_mid H8 e
      have m1 := M8.s0
      have m2 := M8.sh
      have m3 := M8.ml
      k_steps
      refine Stop.go ?_
      k_dflt (refine' Spec.useI (IH _ _ _ _ M8.one) ?k1 ?k2 ?k3 ?k4 ?k5 ?kK ?kd ?ku ?_)
      walk_at "my:use"
      intro t1 hh1 tk1 F1 N1
      (try dsimp only)
      k_steps
      refine Stop.go ?_
      k_dflt (refine' Spec.useI (IH _ _ _ _ M8.two) ?k1 ?k2 ?k3 ?k4 ?k5 ?kK ?kd ?ku ?_)
      walk_at "my:use"
      intro t2 hh2 tk2 F2 N2
      (try dsimp only)
      k_steps
      refine' ret_isI ?e0 M8.fin ?e2 ?e3 ?e4
      (case e0 => assumption)
      (case e2 => k_asm)
      (case e3 => k_asm)
      (case e4 => walk_at "my:sub")
  · intro NB INN
    (try dsimp only)
    (try k_fold)
    k_steps
    refine Stop.go ?_
    k_dflt (refine' Spec.useI (INN 6 _ _ _ _ ?pre) ?k1 ?k2 ?k3 ?k4 ?k5 ?kK ?kd ?ku ?_)
    (case pre => exact ⟨by decide, by omega, Int.le_refl _, by simp; omega, hd64, hn, hn2, hdd⟩)
    walk_at "my:use"
    intro t1 hh1 tk1 F1 N1
    (try dsimp only)
    k_steps
    refine' ret_isTI ?e0 ?e1 ?e2 ?e3 (congrArg (undig n.toNat) (un_all (n := n.toNat))) d91 d92 nc9 nr9
    (case e0 => assumption)
    (case e1 => k_asm)
    (case e2 => k_asm)
    (case e3 => exact List.forall_mem_cons.mpr ⟨.tail _ (.tail _ (.tail _ (.tail _ (.head _)))), List.forall_mem_cons.mpr ⟨.tail _ (.tail _ (.tail _ (.tail _ (.tail _ (.head _))))), fun p hp => .tail _ (.tail _ (.tail _ (.tail _ (.tail _ (.tail _ hp)))))⟩⟩)
end
theorem all_LC6 : ∀ v, VP_LC6 v := k_LC6.2 c_spec_d2i
section
variable (w : World) (p : Program) (loose : List Str) (mean : ExcName → Option Value) (mg mb : Str → Option Value)
theorem spec_d2i (news : List (Addr × Obj)) (o : Obj) (k : Addr × Obj) (hT : Tab 47 4 (Str.ofString "_digits2int.<locals>.inner") o k) (hk37 : k.1 ≠ 37) (h37 : ∀ p ∈ news, p.1 ≠ 37) (l : Addr) (vs : List Value) (nn : Nat) (hl : (l, W.listOf vs.toArray nn) ∈ news) (ds : List Int) (hi : IntsAre vs ds) (n : Int) (t2 : Tok) (hd0 : 0 < ds.length) (hd64 : ds.length ≤ 64) (hn : 0 < n) (hn2 : n ≤ 20000) (hdd : Digs n.toNat ds) :
    Spec w p loose mean mg mb 9 ((37, o) :: k :: news) 42 [.ref l, .int n t2] [] (isTI 37 47 4 (Str.ofString "_digits2int.<locals>.inner") (undig n.toNat ds) k news) := by
  refine' spec_bodyC (qual := Str.ofString "_digits2int") (body := fb5.1) (scope := fb5.2) (cdv := .ref 41) (binds := [(Str.ofString "digits", .ref l), (Str.ofString "n", .int n t2)]) (fun z0 z1 z2 z3 z4 z5 z6 z7 z8 z9 z10 z11 z12 z13 z14 z15 z16 z17 z18 z19 z20 => (all_LC6 (w, p, loose, mean, mg, mb, news, o, k, l, vs, nn, ds, n, t2, z0, z1, z2, z3, z4, z5, z6, z7, z8, z9, z10, z11, z12, z13, z14, z15, z16, z17, z18, z19, z20)) hT hk37 h37 hl hi hd0 hd64 hn hn2 hdd) ?ho ?hcd ?h1 ?hb ?hl ?hn ?c1 ?c2 ?c3
  (case c1 => exact rfl); (case c2 => exact rfl); (case c3 => exact rfl)
  (case ho => k_is)
  (case hcd => k_is)
  (case h1 => omega)
  (case hb => exact fun _ _ _ _ _ _ => BindsTo.of_eq rfl)
  (case hl => exact rfl)
  (case hn => decide +kernel)
end
end
end
theorem off_LC6 : True := trivial
-- LL
theorem again_LL : True := by w_top off; (try walk1); trivial
section
def LEnd {σ : Type} (h₀ : Heap) (L : Addr) (x : Str) (stored : List Str) (m₀ : Str → Option Value) (Led : σ → List (Addr × Obj)) (ps : σ → List (Str × Value)) (P : σ → Prop) (I : Addr) (it : Obj) (s₁ s₂ : Shared) : Prop :=
  ∃ c' h' tk m' nw, s₂ = { s₁ with heap := h', toks := tk } ∧ Fr h₀ L h' m' ∧ News h₀ L h' nw ∧ (∀ p ∈ (I, it) :: Led c', p ∈ nw) ∧ (∀ p ∈ Led c', p.1 ≠ I) ∧ (∀ p ∈ ps c', m' p.1 = some p.2) ∧ (∀ z, z ≠ x → (∀ p ∈ ps c', z ≠ p.1) → stored.contains z = false → m' z = m₀ z) ∧ P c'
def LPost {σ : Type} (h₀ : Heap) (L : Addr) (x : Str) (stored : List Str) (m₀ : Str → Option Value) (Led : σ → List (Addr × Obj)) (ps : σ → List (Str × Value)) (P : σ → Prop) (I : Addr) (it : Obj) (s₁ : Shared) (Q : Flow → Shared → Prop) (f : Flow) (s₂ : Shared) : Prop :=
  match f with
  | .ret v => Q (.ret v) s₂
  | .brk => Q .next s₂
  | _ => LEnd h₀ L x stored m₀ Led ps P I it s₁ s₂
theorem LEnd.mk {σ : Type} {h₀ : Heap} {L : Addr} {x : Str} {stored : List Str} {m₀ : Str → Option Value} {Led : σ → List (Addr × Obj)} {ps : σ → List (Str × Value)} {P : σ → Prop} {I : Addr} {it : Obj} {s₁ : Shared} {h' : Heap} {tk : Nat} {m' : Str → Option Value} {nw : List (Addr × Obj)} (c' : σ)
    (F : Fr h₀ L h' m') (N : News h₀ L h' nw) (hn : ∀ p ∈ (I, it) :: Led c', p ∈ nw) (ho : ∀ p ∈ Led c', p.1 ≠ I) (hk : ∀ p ∈ ps c', m' p.1 = some p.2) (hr : ∀ z, z ≠ x → (∀ p ∈ ps c', z ≠ p.1) → stored.contains z = false → m' z = m₀ z) (hp : P c') :
    LEnd h₀ L x stored m₀ Led ps P I it s₁ { s₁ with heap := h', toks := tk } := ⟨c', h', tk, m', nw, rfl, F, N, hn, ho, hk, hr, hp⟩
structure LAt {σ : Type} (x : Str) (stored : List Str) (m₀ : Str → Option Value) (Led : σ → List (Addr × Obj)) (ps : σ → List (Str × Value)) (P : σ → Prop) (m : Str → Option Value) (nx : List (Addr × Obj)) (c : σ) : Prop where
  led : nx = Led c
  names : ∀ p ∈ ps c, m p.1 = some p.2
  rest : ∀ z, z ≠ x → (∀ p ∈ ps c, z ≠ p.1) → stored.contains z = false → m z = m₀ z
  word : P c
section
variable {prog : Program} {w : World} {A : Around} {E : Value → Shared → Prop} {s : Shared} {env : Env} {h₀ : Heap} {x : Str} {body : List Stmt} {Q : Flow → Shared → Prop}
theorem l_post {σ : Type} {L : Addr} {stored : List Str} {m₀ : Str → Option Value} {Led : σ → List (Addr × Obj)} {ps : σ → List (Str × Value)} {P : σ → Prop} {I : Addr} {it : Obj} {s₁ : Shared} {rest : (Str → Option Value) → List (Addr × Obj) → Prop}
    (up : ∀ m nx c, LAt x stored m₀ Led ps P m nx c → (∀ p ∈ nx, p.1 ≠ I) → rest m nx) (f : Flow) (s₂ : Shared) (h : LPost h₀ L x stored m₀ Led ps P I it s₁ Q f s₂) : UnrPost h₀ L s₁ I it rest Q f s₂ := by
  have fin : LEnd h₀ L x stored m₀ Led ps P I it s₁ s₂ → UnrEnd h₀ L s₁ I it rest s₂ := by
    rintro ⟨c', h', tk, m', nw, rfl, F, N, hn, ho, hk, hr, hp⟩
    exact ⟨h', tk, m', Led c', rfl, F, fun p hp => N p (hn p hp), ho, up m' (Led c') c' ⟨rfl, hk, hr, hp⟩ ho⟩
  cases f with
  | ret v => exact h
  | brk => exact h
  | next => exact fin h
  | cont => exact fin h
theorem loop_list {σ : Type} {ax : Addr} {lo : Obj} {vs : List Value} {n : Nat} {m₀ : Str → Option Value} (Led : σ → List (Addr × Obj)) (ps : σ → List (Str × Value)) (stored : List Str) (P : List Value → σ → Prop) (c₀ : σ)
    (hh : A.handled = none) (F : Fr h₀ env.locals s.heap m₀) (N : News h₀ env.locals s.heap (Led c₀)) (hm : ∀ c, (ax, lo) ∈ Led c) (hc : lo.cls = .type "list") (hd : lo.data = .seq vs.toArray n) (hk : ∀ p ∈ ps c₀, m₀ p.1 = some p.2) (hp : P vs c₀)
    (turn : ∀ I, (∀ p ∈ Led c₀, p.1 < I) → ∀ v r c (u : Str → Option Value) (it : Obj) h tk, P (v :: r) c → Fr h₀ env.locals h (fun y => if y = x then some v else kstB (fun z => if stored.contains z then u z else m₀ z) (ps c) y) → News h₀ env.locals h ((I, it) :: Led c) → (∀ p ∈ Led c, p.1 ≠ I) →
      wpAny (model prog w) A (execs body env) (LPost h₀ env.locals x stored m₀ Led ps (P r) I it { s with heap := h, toks := tk } Q) E { s with heap := h, toks := tk })
    (done : ∀ c (u : Str → Option Value) h tk, P [] c → Fr h₀ env.locals h (fun y => if y = x then u y else kstB (fun z => if stored.contains z then u z else m₀ z) (ps c) y) → News h₀ env.locals h (Led c) → Q .next { s with heap := h, toks := tk }) :
    wpAny (model prog w) A (pyIter (.ref ax)) (fun it s₂ => LoopAtV prog w A h₀ env x body Q E it s₂) E s := by
  refine iter_listUnr (vs := vs) (n := n) hh F N (hm c₀) hc hd fun I hI => ?_
  have all : ∀ (l : List Value) (m : Str → Option Value) (nx : List (Addr × Obj)) (c : σ), LAt x stored m₀ Led ps (P l) m nx c → (∀ p ∈ nx, p.1 ≠ I) → ListRest prog w A E h₀ env x body Q s I (ax, lo) l m nx := by
    intro l
    induction l with
    | nil =>
      rintro m nx c ⟨rfl, h1, h2, h3⟩ _
      exact ListRest.zero fun h tk F' N' => done c m h tk h3 (kst_frOut h1 h2 F') N'
    | cons v r ih =>
      rintro m nx c ⟨rfl, h1, h2, h3⟩ ho
      refine ListRest.succ fun it h tk _ F' N' => ?_
      refine wpAny_mono (turn I hI v r c m it h tk h3 (kst_fr h1 h2 F') N' ho) (fun f s₂ q => l_post (fun m' nx' c' a b => ⟨?_, ih m' nx' c' a b⟩) f s₂ q) fun _ _ e => e
      rw [a.led]; exact hm c'
  exact all vs m₀ (Led c₀) c₀ ⟨rfl, hk, fun _ _ _ _ => rfl, hp⟩ fun p hp => Nat.ne_of_lt (hI p hp)
theorem loop_rev {σ : Type} {ax I : Addr} {lo : Obj} {vs : List Value} {n : Nat} {m₀ : Str → Option Value} (Led : σ → List (Addr × Obj)) (ps : σ → List (Str × Value)) (stored : List Str) (P : List Value → σ → Prop) (c₀ : σ)
    (hh : A.handled = none) (F : Fr h₀ env.locals s.heap m₀) (N : News h₀ env.locals s.heap ((I, revObj ax ((vs.length : Int) - 1)) :: Led c₀)) (hI : ∀ p ∈ Led c₀, p.1 ≠ I) (hm : ∀ c, (ax, lo) ∈ Led c) (hc : lo.cls = .type "list") (hd : lo.data = .seq vs.toArray n) (hk : ∀ p ∈ ps c₀, m₀ p.1 = some p.2) (hp : P vs.reverse c₀)
    (turn : ∀ v r c (u : Str → Option Value) (it : Obj) h tk, P (v :: r) c → Fr h₀ env.locals h (fun y => if y = x then some v else kstB (fun z => if stored.contains z then u z else m₀ z) (ps c) y) → News h₀ env.locals h ((I, it) :: Led c) → (∀ p ∈ Led c, p.1 ≠ I) →
      wpAny (model prog w) A (execs body env) (LPost h₀ env.locals x stored m₀ Led ps (P r) I it { s with heap := h, toks := tk } Q) E { s with heap := h, toks := tk })
    (done : ∀ c (u : Str → Option Value) h tk, P [] c → Fr h₀ env.locals h (fun y => if y = x then u y else kstB (fun z => if stored.contains z then u z else m₀ z) (ps c) y) → News h₀ env.locals h (Led c) → Q .next { s with heap := h, toks := tk }) :
    wpAny (model prog w) A (pyIter (.ref I)) (fun it s₂ => LoopAtV prog w A h₀ env x body Q E it s₂) E s := by
  have off : ∀ {l : List (Addr × Obj)} {o : Obj}, (∀ p ∈ l, p.1 ≠ I) → OffI I o l := by
    intro l o
    induction l with
    | nil => exact fun _ => True.intro
    | cons p r ih => exact fun h => ⟨.inl (h p (.head _)), ih fun q hq => h q (.tail _ hq)⟩
  refine iter_revUnr (vs := vs) (n := n) hh F N (off hI) (hm c₀) hc hd ?_
  have all : ∀ (l : List Value) (m : Str → Option Value) (nx : List (Addr × Obj)) (c : σ), LAt x stored m₀ Led ps (P l) m nx c → (∀ p ∈ nx, p.1 ≠ I) → RevRest prog w A E h₀ env x body Q s I (ax, lo) l m nx := by
    intro l
    induction l with
    | nil =>
      rintro m nx c ⟨rfl, h1, h2, h3⟩ _
      exact RevRest.zero fun h tk F' N' => done c m h tk h3 (kst_frOut h1 h2 F') N'
    | cons v r ih =>
      rintro m nx c ⟨rfl, h1, h2, h3⟩ ho
      refine RevRest.succ fun it h tk _ F' N' => ?_
      refine wpAny_mono (turn v r c m it h tk h3 (kst_fr h1 h2 F') N' ho) (fun f s₂ q => l_post (fun m' nx' c' a b => ⟨?_, ih m' nx' c' a b⟩) f s₂ q) fun _ _ e => e
      rw [a.led]; exact hm c'
  exact all vs.reverse m₀ (Led c₀) c₀ ⟨rfl, hk, fun _ _ _ _ => rfl, hp⟩ hI
theorem loop_range {σ : Type} {r : Addr} {a₀ b₀ : Int} {t₀ u₀ v₀ : Tok} (n : Nat) {m₀ : Str → Option Value} (Led : σ → List (Addr × Obj)) (ps : σ → List (Str × Value)) (stored : List Str) (P : Nat → σ → Prop) (c₀ : σ)
    (hh : A.handled = none) (hr : IsRange s.heap r a₀ b₀ 1 t₀ u₀ v₀) (hsmall : Builtin.Range.small a₀ b₀ 1 = true) (hn : Builtin.Range.rangeSize a₀ b₀ 1 = (n : Int)) (F : Fr h₀ env.locals s.heap m₀) (N : News h₀ env.locals s.heap (Led c₀)) (hk : ∀ p ∈ ps c₀, m₀ p.1 = some p.2) (hp : P n c₀)
    (turn : ∀ I, (∀ p ∈ Led c₀, p.1 < I) → ∀ i c t (u : Str → Option Value) (it : Obj) h tk, i < n → P (n - i) c → Fr h₀ env.locals h (fun y => if y = x then some (.int (a₀ + (i : Int)) t) else kstB (fun z => if stored.contains z then u z else m₀ z) (ps c) y) → News h₀ env.locals h ((I, it) :: Led c) → (∀ p ∈ Led c, p.1 ≠ I) →
      wpAny (model prog w) A (execs body env) (LPost h₀ env.locals x stored m₀ Led ps (P (n - (i + 1))) I it { s with heap := h, toks := tk } Q) E { s with heap := h, toks := tk })
    (done : ∀ c (u : Str → Option Value) h tk, P 0 c → Fr h₀ env.locals h (fun y => if y = x then u y else kstB (fun z => if stored.contains z then u z else m₀ z) (ps c) y) → News h₀ env.locals h (Led c) → Q .next { s with heap := h, toks := tk }) :
    wpAny (model prog w) A (pyIter (.ref r)) (fun it s₂ => LoopAtV prog w A h₀ env x body Q E it s₂) E s := by
  refine iter_rangeUnr (n := n) hh hr hsmall hn F N fun I hI => ?_
  have all : ∀ (k i : Nat) (m : Str → Option Value) (nx : List (Addr × Obj)) (c : σ), i + k = n → LAt x stored m₀ Led ps (P k) m nx c → (∀ p ∈ nx, p.1 ≠ I) → RangeRest prog w A E h₀ env x body Q s I a₀ n k i m nx := by
    intro k
    induction k with
    | zero =>
      rintro i m nx c _ ⟨rfl, h1, h2, h3⟩ _
      exact RangeRest.zero fun h tk F' N' => done c m h tk h3 (kst_frOut h1 h2 F') N'
    | succ k ih =>
      rintro i m nx c e ⟨rfl, h1, h2, h3⟩ ho
      refine RangeRest.succ fun t h tk F' N' => ?_
      have e1 : n - i = k + 1 := by omega
      have e2 : n - (i + 1) = k := by omega
      have T := turn I hI i c t m _ h tk (by omega) (by rw [e1]; exact h3) (kst_fr h1 h2 F') N' ho
      rw [e2] at T
      exact wpAny_mono T (fun f s₂ q => l_post (fun m' nx' c' a b => ih (i + 1) m' nx' c' (by omega) a b) f s₂ q) fun _ _ e => e
  exact all n 0 m₀ (Led c₀) c₀ (by omega) ⟨rfl, hk, fun _ _ _ _ => rfl, hp⟩ fun p hp => Nat.ne_of_lt (hI p hp)
end
end
-- LM6
theorem again_LM6 : True := by w_top off; (try walk1); trivial
section
structure DmW (b : Int) (N : Nat) (D rest qs : List Int) (r : Int) : Prop where
  dec : ∃ d, D = rest.reverse ++ d ∧ undig N d = undig N qs.reverse * b + r
  r0 : 0 ≤ r
  r1 : r < b
  dq : Digs N qs
  dd : Digs N rest
  len : qs.length + rest.length = D.length
theorem DmW.start {b : Int} {N : Nat} {D : List Int} (hb : 0 < b) (hD : Digs N D) : DmW b N D D.reverse [] 0 :=
  ⟨⟨[], by rw [List.reverse_reverse, List.append_nil], by rw [List.reverse_nil, undig, Int.zero_mul, Int.zero_add]⟩, Int.le_refl _, hb, fun _ h => (nomatch h), fun d h => hD d (List.mem_reverse.mp h), by rw [List.length_nil, List.length_reverse, Nat.zero_add]⟩
theorem DmW.pre {b : Int} {N : Nat} {D rest qs : List Int} {r d : Int} (h : DmW b N D (d :: rest) qs r) : 0 ≤ r * 2 ^ N + d ∧ r * 2 ^ N + d < b * 2 ^ N := by
  have hd := h.dd d (.head _)
  have hP := two_pos N
  have h1 := Int.mul_nonneg h.r0 (Int.le_of_lt hP)
  have h2 : (r + 1) * 2 ^ N ≤ b * 2 ^ N := mul_le_mono (Int.le_of_lt hP) (by have := h.r1; omega)
  rw [Int.add_mul] at h2
  omega
theorem DmW.step {b : Int} {N : Nat} {D rest qs : List Int} {r d q z : Int} (h : DmW b N D (d :: rest) qs r) (e : r * 2 ^ N + d = q * b + z) (z0 : 0 ≤ z) (z1 : z < b) : DmW b N D rest (qs ++ [q]) z := by
  obtain ⟨p0, p1⟩ := h.pre
  obtain ⟨q0, q1⟩ := quot_lt e z0 z1 p0 p1
  obtain ⟨dn, e1, e2⟩ := h.dec
  refine ⟨⟨d :: dn, by rw [e1]; simp, ?_⟩, z0, z1, fun x hx => ?_, fun x hx => h.dd x (.tail _ hx), ?_⟩
  · rw [undig, e2, List.reverse_append, List.reverse_singleton, List.singleton_append, undig]
    grind
  · rcases List.mem_append.mp hx with hx | hx
    · exact h.dq x hx
    · rw [List.mem_singleton.mp hx]; exact ⟨q0, q1⟩
  · have := h.len
    rw [List.length_cons] at this
    rw [List.length_append, List.length_singleton]
    omega
theorem DmW.fin {b : Int} {N : Nat} {D qs : List Int} {r : Int} (h : DmW b N D [] qs r) : undig N D = undig N qs.reverse * b + r ∧ Digs N qs.reverse ∧ qs.reverse.length = D.length := by
  obtain ⟨dn, e1, e2⟩ := h.dec
  have := h.len
  refine ⟨by rw [e1]; simpa using e2, fun x hx => h.dq x (List.mem_reverse.mp hx), by simp at *; omega⟩
theorem bits_pos {x : Int} (h : 0 < x) : 0 < Builtin.Int.intBits x := by
  rcases Nat.eq_zero_or_pos (Builtin.Int.intBits x) with e | e
  · have := (intBits_le_iff (m := 0) (x := x)).mp (Nat.le_of_eq e)
    simp at this
    omega
  · exact e
theorem lt_bits {x : Int} (h : 0 ≤ x) : x < 2 ^ Builtin.Int.intBits x := by
  have := (intBits_le_iff (m := Builtin.Int.intBits x) (x := x)).mp (Nat.le_refl _)
  have e := Int.ofNat_lt.mpr this
  rw [kbt_cast] at e
  omega
structure DmPre (a b : Int) : Prop where
  a0 : 0 < a
  b0 : 0 < b
  bN : Builtin.Int.intBits b ≤ 16000
  ab : Builtin.Int.intBits a ≤ 64 * Builtin.Int.intBits b
structure DmC (a b c : Int) : Prop where
  n0 : 0 < (Builtin.Int.intBits b : Int)
  n1 : (Builtin.Int.intBits b : Int) ≤ 16000
  c0 : 0 < c
  c1 : c ≤ 64
  ac : a < 2 ^ ((Builtin.Int.intBits b : Int).toNat * c.toNat)
  bb : b < 2 ^ (Builtin.Int.intBits b : Int).toNat
theorem ceil_ok (A B : Nat) (hA : 0 < A) (hB : 0 < B) (h : A ≤ 64 * B) : ∃ c : Nat, ((A : Int) + (B : Int) - 1).fdiv (B : Int) = (c : Int) ∧ 0 < c ∧ c ≤ 64 ∧ A ≤ B * c := by
  obtain ⟨m, hm⟩ : ∃ m : Nat, m + 1 = A + B := ⟨A + B - 1, by omega⟩
  have e : ((A : Int) + (B : Int) - 1) = ((m : Nat) : Int) := by omega
  rw [e, Int.fdiv_eq_ediv_of_nonneg _ (by omega), ← Int.natCast_ediv]
  have d1 := Nat.div_add_mod m B
  have d2 := Nat.mod_lt m hB
  refine ⟨m / B, rfl, ?_, ?_, ?_⟩
  · rcases Nat.eq_zero_or_pos (m / B) with e0 | e0
    · rw [e0, Nat.mul_zero] at d1; omega
    · exact e0
  · exact Nat.le_of_lt_succ (Nat.div_lt_of_lt_mul (by omega))
  · generalize m / B = c at *
    omega
theorem dm_c {a b : Int} (h : DmPre a b) : DmC a b ((Builtin.Int.intBits a + (Builtin.Int.intBits b : Int) - 1 : Int).fdiv (Builtin.Int.intBits b : Int)) := by
  have h1 := bits_pos h.a0
  have h2 := bits_pos h.b0
  have h3 := lt_bits (Int.le_of_lt h.a0)
  have h4 := lt_bits (Int.le_of_lt h.b0)
  have h5 := h.bN
  obtain ⟨c, e, c0, c1, hc⟩ := ceil_ok _ _ h1 h2 h.ab
  rw [e]
  have := pow_mono hc
  refine ⟨by omega, by omega, by omega, by omega, ?_, ?_⟩
  · rw [Int.toNat_natCast, Int.toNat_natCast]; omega
  · rw [Int.toNat_natCast]; exact h4
end
-- LC7
theorem again_LC7 : True := by w_top off; (try walk1); trivial
section
theorem lay_11 : True := by
  k_with "on:size" => (fail_if_success (have z9 := off_kall))
  k_with "on:iter" => (fail_if_success (have z9 := off_LC7))
  trivial
abbrev q3 : Str := Str.ofString "_int2digits.<locals>.inner"
abbrev q7 : Str := Str.ofString "_digits2int.<locals>.inner"
structure Tabs (o3 : Obj) (k3 : Addr × Obj) (o7 : Obj) (k7 : Addr × Obj) (news : List (Addr × Obj)) : Prop where
  t3 : Tab 32 4 q3 o3 k3
  t7 : Tab 47 4 q7 o7 k7
  k33 : k3.1 ≠ 30
  k37 : k3.1 ≠ 37
  k73 : k7.1 ≠ 30
  k77 : k7.1 ≠ 37
  n30 : ∀ p ∈ news, p.1 ≠ 30
  n37 : ∀ p ∈ news, p.1 ≠ 37
structure Slot' (k k' : Addr × Obj) (news : List (Addr × Obj)) : Prop where
  ne : ∀ q ∈ news, q.1 ≠ k.1 → q.1 ≠ k'.1
def isDT (x b : Int) (k3 k7 : Addr × Obj) (news : List (Addr × Obj)) (r : Value) (nw : List (Addr × Obj)) : Prop :=
  ∃ q z l t u o3' k3' o7' k7', r = .ref l ∧ (x = q * b + z ∧ (0 ≤ z ∧ z < b ∨ z ≤ 0 ∧ b < z)) ∧ nw = (l, tup2 q z t u) :: (30, o3') :: k3' :: (37, o7') :: k7' :: news ∧ Tabs o3' k3' o7' k7' news ∧
    (∀ p ∈ (30, o3') :: k3' :: (37, o7') :: k7' :: news, @Ne Nat p.1 l) ∧ (∀ q ∈ news, q.1 ≠ k3.1 → q.1 ≠ k3'.1) ∧ ∀ q ∈ news, q.1 ≠ k7.1 → q.1 ≠ k7'.1
section
variable {w : World} {p : Program} {loose : List Str} {mean : ExcName → Option Value} {mg mb : Str → Option Value} {need : Nat} {news nws : List (Addr × Obj)} {f : Addr} {vs : List Value} {kw : List (Str × Value)}
    {dp un : Nat} {gd : Option (List Code)} {cn : Str} {cs : Scope} {a : Addr} {ccd : Value} {cl : List (Str × Addr)} {outer : List Env} {A₀ : Around} {base h₀ : Heap} {L : Addr} {m : Str → Option Value} {s : Shared} {Q E : Value → Shared → Prop}
theorem Spec.useDT {x b : Int} {k3 k7 : Addr × Obj} (S : Spec w p loose mean mg mb need nws f vs kw (isDT x b k3 k7 news))
    (B : Below A₀ base outer h₀) (F : Fr h₀ L s.heap m) (X : (hd.heap_39 w.params).In h₀) (N : News h₀ L s.heap nws) (T : Top p loose mean mg mb h₀) (hk : cs.kind = .function) (hd : dp + need < recursionLimit) (hu : un + 8 * need < cLine)
    (ret : ∀ q z l t u o3 c3 b3 o7 c7 b7 h' tk', Fr h₀ L h' m → News h₀ L h' ((l, tup2 q z t u) :: (30, o3) :: (c3, b3) :: (37, o7) :: (c7, b7) :: news) → x = q * b + z → (0 ≤ z ∧ z < b ∨ z ≤ 0 ∧ b < z) → Tabs o3 (c3, b3) o7 (c7, b7) news →
      (∀ p ∈ (30, o3) :: (c3, b3) :: (37, o7) :: (c7, b7) :: news, @Ne Nat p.1 l) → (∀ q ∈ news, q.1 ≠ k3.1 → q.1 ≠ c3) → (∀ q ∈ news, q.1 ≠ k7.1 → q.1 ≠ c7) → Q (.ref l) { s with heap := h', toks := tk' }) :
    wpAny (model PySem.Challenge.rw_tl0033_01.row.prog w) (ktrTop dp un gd cn cs L a ccd cl outer) (call (.ref f) vs kw) Q E s :=
  S.use B F X N T hk hd hu fun r nw h' tk' F' N' Pp => by
    obtain ⟨q, z, l, t, u, o3, ⟨c3, b3⟩, o7, ⟨c7, b7⟩, rfl, ⟨e1, e2⟩, rfl, hT, hl, s3, s7⟩ := Pp
    exact ret q z l t u o3 c3 b3 o7 c7 b7 h' tk' F' N' e1 e2 hT hl s3 s7
theorem ret_isDT {h' : Heap} {l c3 c7 : Addr} {b3 b7 o3' o7' : Obj} {k3 k7 : Addr × Obj} {nw : List (Addr × Obj)} {x b q z : Int} {t u : Tok} {tk' : Nat}
    (hret : ∀ r news' h' tk', Fr h₀ L h' m → News h₀ L h' news' → isDT x b k3 k7 news r news' → Q r { s with heap := h', toks := tk' }) (F : Fr h₀ L h' m) (N : News h₀ L h' nw)
    (hs : ∀ p ∈ (l, tup2 q z t u) :: (30, o3') :: (c3, b3) :: (37, o7') :: (c7, b7) :: news, p ∈ nw) (e1 : x = q * b + z) (e2 : 0 ≤ z ∧ z < b ∨ z ≤ 0 ∧ b < z) (hT : Tabs o3' (c3, b3) o7' (c7, b7) news)
    (hl : ∀ p ∈ (30, o3') :: (c3, b3) :: (37, o7') :: (c7, b7) :: news, @Ne Nat p.1 l) (s3 : ∀ q ∈ news, q.1 ≠ k3.1 → q.1 ≠ c3) (s7 : ∀ q ∈ news, q.1 ≠ k7.1 → q.1 ≠ c7) : Q (.ref l) { s with heap := h', toks := tk' } :=
  hret _ _ h' tk' F (cb_drop N hs) ⟨q, z, l, t, u, o3', (c3, b3), o7', (c7, b7), rfl, ⟨e1, e2⟩, rfl, hT, hl, s3, s7⟩
end
section
theorem lay_12 : True := by
  k_with "my:same" => (intro z e1 e2 e3; first
      | rfl
      | ((simp only [List.forall_mem_cons, List.not_mem_nil, false_implies, implies_true, and_true, ne_eq] at e2); (simp only [List.contains_cons, List.contains_nil, Bool.or_false, Bool.or_eq_false_iff, beq_eq_false_iff_ne, ne_eq] at e3); (simp only [e1, e2, e3, if_false, if_true, ite_self]; done))
      | ((simp only [List.forall_mem_cons, List.not_mem_nil, false_implies, implies_true, and_true, ne_eq] at e2); (simp only [List.contains_cons, List.contains_nil, Bool.or_false, Bool.or_eq_false_iff, beq_eq_false_iff_ne, ne_eq] at e3); (simp [e1, e2, e3]; done))
      | ((try simp only [List.forall_mem_cons, List.not_mem_nil, false_implies, implies_true, and_true, ne_eq] at e2); (simp [e1, e2]; done)))
  k_with "ite" => ((fail_if_success (have z9 := off_LC7)); (refine stop_here ?_))
  k_with "call ref" => ((fail_if_success (have z9 := off_LC7)); (k_here; (with_reducible show wpAny _ _ (call (Value.ref 21) _ _) _ _ _); refine stop_here ?_))
  k_with "call ref" => ((fail_if_success (have z9 := off_LC7)); (k_here; (with_reducible show wpAny _ _ (call (Value.ref 35) _ _) _ _ _); refine stop_here ?_))
  k_with "call ref" => ((fail_if_success (have z9 := off_LC7)); (k_here; (with_reducible show wpAny _ _ (call (Value.ref 42) _ _) _ _ _); refine stop_here ?_))
  k_with "call builtin:list.reverse" => ((fail_if_success (have z9 := off_LC7)); (refine stop_here ?_))
  trivial
def C_spec_dmp (w : World) (p : Program) (loose : List Str) (mean : ExcName → Option Value) (mg : Str → Option Value) (mb : Str → Option Value) (news : List (Addr × Obj)) (o3 : Obj) (o7 : Obj) (k3 : Addr × Obj) (k7 : Addr × Obj) (a0 : Int) (b0 : Int) (t1 : Tok) (t2 : Tok) (dp : Nat) (un : Nat) (gd : Option (List Code)) (cn : Str) (cs : Scope) (a : Addr) (ccd : Value) (cl : List (Str × Addr)) (outer : List Env) (A₀ : Around) (base : Heap) (h₀ : Heap) (L : Addr) (m : Str → Option Value) (s : Shared) (Q : Value → Shared → Prop) (E : Value → Shared → Prop) (g' : Heap) (L' : Addr) (h' : Heap) : Prop :=
  (importsNone p = true) →
  (Tabs o3 k3 o7 k7 news) →
  (DmPre a0 b0) →
  RunD w p loose mean mg mb 110 ((30, o3) :: k3 :: (37, o7) :: k7 :: news) 49 (isDT a0 b0 k3 k7 news) (Str.ofString "_divmod_pos") fb6.1 fb6.2 (.ref 48) [(Str.ofString "a", .int a0 t1), (Str.ofString "b", .int b0 t2)] dp un gd cn cs a ccd cl outer A₀ base h₀ L m s Q E g' L' h'
abbrev V_LC7 := (World) × (Program) × (List Str) × (ExcName → Option Value) × (Str → Option Value) × (Str → Option Value) × (List (Addr × Obj)) × (Obj) × (Obj) × (Addr × Obj) × (Addr × Obj) × (Int) × (Int) × (Tok) × (Tok) × (Nat) × (Nat) × (Option (List Code)) × (Str) × (Scope) × (Addr) × (Value) × (List (Str × Addr)) × (List Env) × (Around) × (Heap) × (Heap) × (Addr) × (Str → Option Value) × (Shared) × (Value → Shared → Prop) × (Value → Shared → Prop) × (Heap) × (Addr) × (Heap)
def D_spec_dmp (v : V_LC7) : Prop := C_spec_dmp v.1 v.2.1 v.2.2.1 v.2.2.2.1 v.2.2.2.2.1 v.2.2.2.2.2.1 v.2.2.2.2.2.2.1 v.2.2.2.2.2.2.2.1 v.2.2.2.2.2.2.2.2.1 v.2.2.2.2.2.2.2.2.2.1 v.2.2.2.2.2.2.2.2.2.2.1 v.2.2.2.2.2.2.2.2.2.2.2.1 v.2.2.2.2.2.2.2.2.2.2.2.2.1 v.2.2.2.2.2.2.2.2.2.2.2.2.2.1 v.2.2.2.2.2.2.2.2.2.2.2.2.2.2.1 v.2.2.2.2.2.2.2.2.2.2.2.2.2.2.2.1 v.2.2.2.2.2.2.2.2.2.2.2.2.2.2.2.2.1 v.2.2.2.2.2.2.2.2.2.2.2.2.2.2.2.2.2.1 v.2.2.2.2.2.2.2.2.2.2.2.2.2.2.2.2.2.2.1 v.2.2.2.2.2.2.2.2.2.2.2.2.2.2.2.2.2.2.2.1 v.2.2.2.2.2.2.2.2.2.2.2.2.2.2.2.2.2.2.2.2.1 v.2.2.2.2.2.2.2.2.2.2.2.2.2.2.2.2.2.2.2.2.2.1 v.2.2.2.2.2.2.2.2.2.2.2.2.2.2.2.2.2.2.2.2.2.2.1 v.2.2.2.2.2.2.2.2.2.2.2.2.2.2.2.2.2.2.2.2.2.2.2.1 v.2.2.2.2.2.2.2.2.2.2.2.2.2.2.2.2.2.2.2.2.2.2.2.2.1 v.2.2.2.2.2.2.2.2.2.2.2.2.2.2.2.2.2.2.2.2.2.2.2.2.2.1 v.2.2.2.2.2.2.2.2.2.2.2.2.2.2.2.2.2.2.2.2.2.2.2.2.2.2.1 v.2.2.2.2.2.2.2.2.2.2.2.2.2.2.2.2.2.2.2.2.2.2.2.2.2.2.2.1 v.2.2.2.2.2.2.2.2.2.2.2.2.2.2.2.2.2.2.2.2.2.2.2.2.2.2.2.2.1 v.2.2.2.2.2.2.2.2.2.2.2.2.2.2.2.2.2.2.2.2.2.2.2.2.2.2.2.2.2.1 v.2.2.2.2.2.2.2.2.2.2.2.2.2.2.2.2.2.2.2.2.2.2.2.2.2.2.2.2.2.2.1 v.2.2.2.2.2.2.2.2.2.2.2.2.2.2.2.2.2.2.2.2.2.2.2.2.2.2.2.2.2.2.2.1 v.2.2.2.2.2.2.2.2.2.2.2.2.2.2.2.2.2.2.2.2.2.2.2.2.2.2.2.2.2.2.2.2.1 v.2.2.2.2.2.2.2.2.2.2.2.2.2.2.2.2.2.2.2.2.2.2.2.2.2.2.2.2.2.2.2.2.2.1 v.2.2.2.2.2.2.2.2.2.2.2.2.2.2.2.2.2.2.2.2.2.2.2.2.2.2.2.2.2.2.2.2.2.2
def VP_LC7 (v : V_LC7) : Prop := D_spec_dmp v
theorem ne_LC7 : Nonempty V_LC7 := ⟨((⟨fun _ _ => 0, { strHash := fun _ => 0, shareClass := fun _ => 0, mergeTok := id, idOf := fun _ => 0, idOfShared := fun _ _ => 0, followText := fun _ => false, idOfImm := fun _ => 0 }⟩ : World), (default : Program), ([] : List Str), (fun _  => none), (fun _  => none), (fun _  => none), ([] : List (Addr × Obj)), (⟨.none, none, .plain, #[]⟩ : Obj), (⟨.none, none, .plain, #[]⟩ : Obj), ((0, ⟨.none, none, .plain, #[]⟩) : Addr × Obj), ((0, ⟨.none, none, .plain, #[]⟩) : Addr × Obj), (0 : Int), (0 : Int), (0 : Tok), (0 : Tok), (0 : Nat), (0 : Nat), (none : Option (List Code)), (Str.empty : Str), (default : Scope), (0 : Addr), (.none : Value), ([] : List (Str × Addr)), ([] : List Env), ({} : Around), ({} : Heap), ({} : Heap), (0 : Addr), (fun _  => none), ({} : Shared), (fun _ _  => True), (fun _ _  => True), ({} : Heap), (0 : Addr), ({} : Heap))⟩
noncomputable def k_LC7 : {v : V_LC7 // VP_LC7 v → ∀ x, VP_LC7 x} := Classical.choice (drink ne_LC7 VP_LC7)
noncomputable def K_LC7.w : World := k_LC7.1.1
noncomputable def K_LC7.p : Program := k_LC7.1.2.1
noncomputable def K_LC7.loose : List Str := k_LC7.1.2.2.1
noncomputable def K_LC7.mean : ExcName → Option Value := k_LC7.1.2.2.2.1
noncomputable def K_LC7.mg : Str → Option Value := k_LC7.1.2.2.2.2.1
noncomputable def K_LC7.mb : Str → Option Value := k_LC7.1.2.2.2.2.2.1
noncomputable def K_LC7.news : List (Addr × Obj) := k_LC7.1.2.2.2.2.2.2.1
noncomputable def K_LC7.o3 : Obj := k_LC7.1.2.2.2.2.2.2.2.1
noncomputable def K_LC7.o7 : Obj := k_LC7.1.2.2.2.2.2.2.2.2.1
noncomputable def K_LC7.k3 : Addr × Obj := k_LC7.1.2.2.2.2.2.2.2.2.2.1
noncomputable def K_LC7.k7 : Addr × Obj := k_LC7.1.2.2.2.2.2.2.2.2.2.2.1
noncomputable def K_LC7.a0 : Int := k_LC7.1.2.2.2.2.2.2.2.2.2.2.2.1
noncomputable def K_LC7.b0 : Int := k_LC7.1.2.2.2.2.2.2.2.2.2.2.2.2.1
noncomputable def K_LC7.t1 : Tok := k_LC7.1.2.2.2.2.2.2.2.2.2.2.2.2.2.1
noncomputable def K_LC7.t2 : Tok := k_LC7.1.2.2.2.2.2.2.2.2.2.2.2.2.2.2.1
noncomputable def K_LC7.dp : Nat := k_LC7.1.2.2.2.2.2.2.2.2.2.2.2.2.2.2.2.1
noncomputable def K_LC7.un : Nat := k_LC7.1.2.2.2.2.2.2.2.2.2.2.2.2.2.2.2.2.1
noncomputable def K_LC7.gd : Option (List Code) := k_LC7.1.2.2.2.2.2.2.2.2.2.2.2.2.2.2.2.2.2.1
noncomputable def K_LC7.cn : Str := k_LC7.1.2.2.2.2.2.2.2.2.2.2.2.2.2.2.2.2.2.2.1
noncomputable def K_LC7.cs : Scope := k_LC7.1.2.2.2.2.2.2.2.2.2.2.2.2.2.2.2.2.2.2.2.1
noncomputable def K_LC7.a : Addr := k_LC7.1.2.2.2.2.2.2.2.2.2.2.2.2.2.2.2.2.2.2.2.2.1
noncomputable def K_LC7.ccd : Value := k_LC7.1.2.2.2.2.2.2.2.2.2.2.2.2.2.2.2.2.2.2.2.2.2.1
noncomputable def K_LC7.cl : List (Str × Addr) := k_LC7.1.2.2.2.2.2.2.2.2.2.2.2.2.2.2.2.2.2.2.2.2.2.2.1
noncomputable def K_LC7.outer : List Env := k_LC7.1.2.2.2.2.2.2.2.2.2.2.2.2.2.2.2.2.2.2.2.2.2.2.2.1
noncomputable def K_LC7.A₀ : Around := k_LC7.1.2.2.2.2.2.2.2.2.2.2.2.2.2.2.2.2.2.2.2.2.2.2.2.2.1
noncomputable def K_LC7.base : Heap := k_LC7.1.2.2.2.2.2.2.2.2.2.2.2.2.2.2.2.2.2.2.2.2.2.2.2.2.2.1
noncomputable def K_LC7.h₀ : Heap := k_LC7.1.2.2.2.2.2.2.2.2.2.2.2.2.2.2.2.2.2.2.2.2.2.2.2.2.2.2.1
noncomputable def K_LC7.L : Addr := k_LC7.1.2.2.2.2.2.2.2.2.2.2.2.2.2.2.2.2.2.2.2.2.2.2.2.2.2.2.2.1
noncomputable def K_LC7.m : Str → Option Value := k_LC7.1.2.2.2.2.2.2.2.2.2.2.2.2.2.2.2.2.2.2.2.2.2.2.2.2.2.2.2.2.1
noncomputable def K_LC7.s : Shared := k_LC7.1.2.2.2.2.2.2.2.2.2.2.2.2.2.2.2.2.2.2.2.2.2.2.2.2.2.2.2.2.2.1
noncomputable def K_LC7.Q : Value → Shared → Prop := k_LC7.1.2.2.2.2.2.2.2.2.2.2.2.2.2.2.2.2.2.2.2.2.2.2.2.2.2.2.2.2.2.2.1
noncomputable def K_LC7.E : Value → Shared → Prop := k_LC7.1.2.2.2.2.2.2.2.2.2.2.2.2.2.2.2.2.2.2.2.2.2.2.2.2.2.2.2.2.2.2.2.1
noncomputable def K_LC7.g' : Heap := k_LC7.1.2.2.2.2.2.2.2.2.2.2.2.2.2.2.2.2.2.2.2.2.2.2.2.2.2.2.2.2.2.2.2.2.1
noncomputable def K_LC7.L' : Addr := k_LC7.1.2.2.2.2.2.2.2.2.2.2.2.2.2.2.2.2.2.2.2.2.2.2.2.2.2.2.2.2.2.2.2.2.2.1
noncomputable def K_LC7.h' : Heap := k_LC7.1.2.2.2.2.2.2.2.2.2.2.2.2.2.2.2.2.2.2.2.2.2.2.2.2.2.2.2.2.2.2.2.2.2.2
section
open K_LC7
theorem c_spec_dmp : C_spec_dmp w p loose mean mg mb news o3 o7 k3 k7 a0 b0 t1 t2 dp un gd cn cs a ccd cl outer A₀ base h₀ L m s Q E g' L' h' := by
  unfold C_spec_dmp RunD
  dsimp only [fb6]
  k_fill
  intro hip hT H B F X N T hk hdp hun hret FG' F' N' B' X' T'
  (try dsimp only)
  (try dsimp only [List.reverse, List.reverseAux, List.lookup] at F')
  (try k_lift B')
  (try k_fold)
  have hc := dm_c H
  have hn30 : ∀ p ∈ (37, o7) :: k7 :: news, p.1 ≠ 30 := List.forall_mem_cons.mpr ⟨(by decide : (37 : Nat) ≠ 30), List.forall_mem_cons.mpr ⟨hT.k73, hT.n30⟩⟩
  k_steps
  refine Stop.go ?_
  k_dflt (refine' Spec.useTL (spec_i2d w p loose mean mg mb _ _ _ hT.t3 hT.k33 hn30 _ _ _ _ _ H.a0 hc.n0 (by have := hc.n1; omega) rfl hc.c0 hc.c1 hc.ac) ?k1 ?k2 ?k3 ?k4 ?k5 ?kK ?kd ?ku ?_)
  walk_at "my:use"
  intro l1 vs1 o31 c31 b31 h1 tk1 F1 N1 hi1 hT31 hc31 hl1 hP1 hcl1 hs31
  (try dsimp only)
  k_steps
  refine Stop.go ?_
  rename_i lQ hq1 ltQ hq2 DI hI FC NC ltI
  obtain ⟨i1, i2, i3, i4, i5, i6, i7⟩ := ltI
  obtain ⟨j1, j2, j3, j4, j5, j6⟩ := ltQ
  have hDD := digs_Digs (Builtin.Int.intBits b0 : Int).toNat ((Builtin.Int.intBits a0 + (Builtin.Int.intBits b0 : Int) - 1 : Int).fdiv (Builtin.Int.intBits b0 : Int)).toNat a0
  have hDl := digs_length (Builtin.Int.intBits b0 : Int).toNat ((Builtin.Int.intBits a0 + (Builtin.Int.intBits b0 : Int) - 1 : Int).fdiv (Builtin.Int.intBits b0 : Int)).toNat a0
  have hDu := digs_undig (Int.le_of_lt H.a0) hc.ac
  have hc1 := hc.c1
  have hc0 := hc.c0
  have hbb := hc.bb
  have hb0 := H.b0
  have hn0 := hc.n0
  have hn1 := hc.n1
  generalize hD : digs (Builtin.Int.intBits b0 : Int).toNat ((Builtin.Int.intBits a0 + (Builtin.Int.intBits b0 : Int) - 1 : Int).fdiv (Builtin.Int.intBits b0 : Int)).toNat a0 = D at *
  generalize (Builtin.Int.intBits a0 + (Builtin.Int.intBits b0 : Int) - 1 : Int).fdiv (Builtin.Int.intBits b0 : Int) = c at *
  clear hc hD
  have hN0 : 0 ≤ (Builtin.Int.intBits b0 : Int) := by omega
  refine' loop_rev (σ := List Int × List Value × Nat × Int × Tok) (vs := vs1) (n := 0) (fun c => (lQ, W.listOf c.2.1.toArray c.2.2.1) :: (l1, W.listOf vs1.toArray 0) :: (30, o31) :: (c31, b31) :: (37, o7) :: k7 :: news)
    (fun c => [(Str.ofString "r", .int c.2.2.2.1 c.2.2.2.2)]) [Str.ofString "q_digit"] (fun rest c => ∃ ri, IntsAre rest ri ∧ IntsAre c.2.1 c.1 ∧ DmW b0 (Builtin.Int.intBits b0 : Int).toNat D ri c.1 c.2.2.2.1) ([], [], 0, 0, _)
    rfl FC NC ?hI (fun _ => .tail _ (.head _)) rfl rfl ?hk ⟨_, hi1.reverse, IntsAre.nil, DmW.start hb0 hDD⟩ ?_ ?_
  (case hk => kst_all)
  (case hI =>
    dsimp only
    exact List.forall_mem_cons.mpr ⟨neN (by (try dsimp only); omega), List.forall_mem_cons.mpr ⟨neN (by (try dsimp only); omega), List.forall_mem_cons.mpr ⟨neN (by (try dsimp only); omega), List.forall_mem_cons.mpr ⟨neN (by (try dsimp only); omega), List.forall_mem_cons.mpr ⟨neN (by (try dsimp only); omega), List.forall_mem_cons.mpr ⟨neN (by (try dsimp only); omega), all_ne i7 (Nat.le_refl _)⟩⟩⟩⟩⟩⟩)
  · rintro v r ⟨qs, vsq, nq, r8, tr8⟩ u8 it8 h8 tk8 ⟨ri, hri, hqs, hW⟩ FD ND hoff
    dsimp only [kstB] at FD ND hqs hW hoff
    cases hri with
    | cons d td hri =>
    rename_i ri
    obtain ⟨p0, p1⟩ := hW.pre
    have hsh : (Builtin.Int.intBits r8 : Int) + (Builtin.Int.intBits b0 : Int) ≤ 2 ^ 27 := bits_sh (M := (Builtin.Int.intBits b0 : Int).toNat) hW.r0 (by have := hW.r1; omega) (by omega) (by omega)
    have hz : vsq.toArray.size ≤ sizeLine := by
      have := hW.len
      rw [List.size_toArray, hqs.length, sizeLine_eq]
      omega
    k_steps
    refine Stop.go ?_
    k_dflt (refine' Spec.useD (spec_d2 w p loose mean mg mb hip _ _ _ _ _ _ _ ⟨p0, hb0, hbb, p1, hN0, by omega⟩ hn1) ?k1 ?k2 ?k3 ?k4 ?k5 ?kK ?kd ?ku ?_)
    walk_at "my:use"
    intro q1 z1 lt1 tq1 tz1 hh1 tkh1 Fh1 Nh1 eq1 z10 z11 ltt1
    (try dsimp only)
    k_lt ltt1
    k_steps
    dsimp only [LPost]
    rename News _ _ _ _ => NE
    simp only [List.push_toArray] at NE
    refine' LEnd.mk (qs ++ [q1], vsq ++ [Value.int q1 tq1], nq + 1, z1, tz1) (by k_asm) NE ?hn ?ho ?hk ?hr ⟨ri, hri, hqs.append (IntsAre.cons _ _ IntsAre.nil), hW.step eq1 z10 z11⟩
    (case ho => exact List.forall_mem_cons.mpr ⟨(List.forall_mem_cons.mp hoff).1, (List.forall_mem_cons.mp hoff).2⟩)
    (case hn => exact fun _ h => List.Mem.tail _ h)
    (case hk => kst_all)
    (case hr => walk_at "my:same")
  · rintro ⟨qs, vsq, nq, r8, tr8⟩ u8 h8 tk8 ⟨ri, hri, hqs, hW⟩ FD ND
    dsimp only [kstB] at FD ND hqs hW
    cases hri
    obtain ⟨f1, f2, f3⟩ := hW.fin
    have hqlen := hW.len
    have hvl := hqs.length
    k_steps
    refine Stop.go ?_
    (k_dflt (refine' kl_reverse ?F ?N rfl ?U ?z ?_); (case F => k_asm); (case N => k_asm); (case U => k_upd); (case z => (rw [sizeLine_eq]; simp; omega)))
    intro hR FR NR
    (try dsimp only)
    k_steps
    refine Stop.go ?_
    rename News _ _ _ _ => NZ
    have hs37 : c31 ≠ 37 := Ne.symm (hs31 (37, o7) (.head _) (Ne.symm hT.k37))
    have h1b : @LT.lt Nat _ 37 l1 := hl1 (37, o7) (.head _)
    have hn37 : ∀ p ∈ (lQ, W.listOf (vsq.reverse).toArray nq) :: (l1, W.listOf vs1.toArray 0) :: (30, o31) :: (c31, b31) :: news, p.1 ≠ 37 := List.forall_mem_cons.mpr ⟨neN (by (try dsimp only); omega), List.forall_mem_cons.mpr ⟨neN (by (try dsimp only); omega), List.forall_mem_cons.mpr ⟨(by decide : (30 : Nat) ≠ 37), List.forall_mem_cons.mpr ⟨hs37, hT.n37⟩⟩⟩⟩
    have hrl : qs.reverse.length = c.toNat := f3.trans hDl
    have NY := cb_drop (news := (37, o7) :: k7 :: (lQ, W.listOf (vsq.reverse).toArray nq) :: (l1, W.listOf vs1.toArray 0) :: (30, o31) :: (c31, b31) :: news) NZ (List.forall_mem_cons.mpr ⟨.tail _ (.tail _ (.tail _ (.tail _ (.head _)))), List.forall_mem_cons.mpr ⟨.tail _ (.tail _ (.tail _ (.tail _ (.tail _ (.head _))))), List.forall_mem_cons.mpr ⟨.head _, List.forall_mem_cons.mpr ⟨.tail _ (.head _), List.forall_mem_cons.mpr ⟨.tail _ (.tail _ (.head _)), List.forall_mem_cons.mpr ⟨.tail _ (.tail _ (.tail _ (.head _))), fun p hp => .tail _ (.tail _ (.tail _ (.tail _ (.tail _ (.tail _ hp)))))⟩⟩⟩⟩⟩⟩)
    k_dflt (refine' Spec.useTI (spec_d2i w p loose mean mg mb _ _ _ hT.t7 hT.k77 hn37 lQ _ _ (.head _) _ hqs.reverse _ _ (by omega) (by omega) hn0 (by omega) f2) ?k1 ?k2 ?k3 NY ?k5 ?kK ?kd ?ku ?_)
    (case k1 => k_asm); (case k2 => k_asm); (case k3 => k_asm); (case k5 => k_asm)
    (case kK => first | exact rfl | assumption)
    (case kd => ktr_room)
    (case ku => ktr_units)
    intro t77 o77 c77 b77 hh7 tk7 F7 N7 hT77 hc77 hs77
    (try dsimp only)
    k_steps
    rename (_ ∧ _ ∧ _ ∧ _ ∧ _ ∧ _ ∧ AllLt _ news) => ltT
    obtain ⟨u1, u2, u3, u4, u5, u6, u7⟩ := ltT
    have hc730 : c77 ≠ 30 := Ne.symm (hs77 (30, o31) (.tail _ (.tail _ (.head _))) (Ne.symm hT.k73))
    refine' ret_isDT ?e0 ?e1 ?e2 ?e3 (hDu.symm.trans f1) (.inl ⟨hW.r0, hW.r1⟩) ⟨hT31, hT77, hc31, hs37, hc730, hc77, hT.n30, hT.n37⟩ ?e4 ?e5 ?e6
    (case e0 => assumption)
    (case e1 => k_asm)
    (case e2 => k_asm)
    (case e3 => exact List.forall_mem_cons.mpr ⟨.head _, List.forall_mem_cons.mpr ⟨.tail _ (.tail _ (.tail _ (.tail _ (.tail _ (.head _))))), List.forall_mem_cons.mpr ⟨.tail _ (.tail _ (.tail _ (.tail _ (.tail _ (.tail _ (.head _)))))), List.forall_mem_cons.mpr ⟨.tail _ (.head _), List.forall_mem_cons.mpr ⟨.tail _ (.tail _ (.head _)), fun p hp => .tail _ (.tail _ (.tail _ (.tail _ (.tail _ (.tail _ (.tail _ hp))))))⟩⟩⟩⟩⟩)
    (case e4 => exact List.forall_mem_cons.mpr ⟨Nat.ne_of_lt u5, List.forall_mem_cons.mpr ⟨Nat.ne_of_lt u6, List.forall_mem_cons.mpr ⟨Nat.ne_of_lt u1, List.forall_mem_cons.mpr ⟨Nat.ne_of_lt u2, fun p hp => Nat.ne_of_lt (ktn_ltOf u7 p hp)⟩⟩⟩⟩)
    (case e5 => exact fun q hq hne => hs31 q (.tail _ (.tail _ hq)) hne)
    (case e6 => exact fun q hq hne => hs77 q (.tail _ (.tail _ (.tail _ (.tail _ hq)))) hne)
end
theorem all_LC7 : ∀ v, VP_LC7 v := k_LC7.2 c_spec_dmp
section
variable (w : World) (p : Program) (loose : List Str) (mean : ExcName → Option Value) (mg mb : Str → Option Value)
theorem spec_dmp (hip : importsNone p = true) (news : List (Addr × Obj)) (o3 o7 : Obj) (k3 k7 : Addr × Obj) (hT : Tabs o3 k3 o7 k7 news) (a0 b0 : Int) (H : DmPre a0 b0) (t1 t2 : Tok) :
    Spec w p loose mean mg mb 110 ((30, o3) :: k3 :: (37, o7) :: k7 :: news) 49 [.int a0 t1, .int b0 t2] [] (isDT a0 b0 k3 k7 news) := by
  refine' spec_body (qual := Str.ofString "_divmod_pos") (body := fb6.1) (scope := fb6.2) (cdv := .ref 48) (binds := [(Str.ofString "a", .int a0 t1), (Str.ofString "b", .int b0 t2)]) (fun z0 z1 z2 z3 z4 z5 z6 z7 z8 z9 z10 z11 z12 z13 z14 z15 z16 z17 z18 z19 => (all_LC7 (w, p, loose, mean, mg, mb, news, o3, o7, k3, k7, a0, b0, t1, t2, z0, z1, z2, z3, z4, z5, z6, z7, z8, z9, z10, z11, z12, z13, z14, z15, z16, z17, z18, z19)) hip hT H) ?ho ?hcd ?h1 ?hb ?hl ?c1 ?c2 ?c3 ?hc
  (case c1 => exact rfl); (case c2 => exact rfl); (case c3 => exact rfl)
  (case ho => k_is)
  (case hcd => k_is)
  (case h1 => omega)
  (case hb => exact fun _ _ _ _ _ _ => BindsTo.of_eq rfl)
  (case hl => exact locs rfl)
  (case hc => decide)
end
end
end
theorem off_LC7 : True := trivial
-- LC8
theorem again_LC8 : True := by w_top off; (try walk1); trivial
section
section
theorem lay_13 : True := by
  k_with "ite" => ((fail_if_success (have z9 := off_LC8)); (refine stop_here ?_))
  k_with "call ref" => ((fail_if_success (have z9 := off_LC8)); (refine stop_here ?_))
  trivial
def C_idm_step (w : World) (p : Program) (loose : List Str) (mean : ExcName → Option Value) (mg : Str → Option Value) (mb : Str → Option Value) (nd : Nat) (news : List (Addr × Obj)) (o3 : Obj) (o7 : Obj) (k3 : Addr × Obj) (k7 : Addr × Obj) (a0 : Int) (b0 : Int) (t1 : Tok) (t2 : Tok) (dp : Nat) (un : Nat) (gd : Option (List Code)) (cn : Str) (cs : Scope) (a : Addr) (ccd : Value) (cl : List (Str × Addr)) (outer : List Env) (A₀ : Around) (base : Heap) (h₀ : Heap) (L : Addr) (m : Str → Option Value) (s : Shared) (Q : Value → Shared → Prop) (E : Value → Shared → Prop) (g' : Heap) (L' : Addr) (h' : Heap) : Prop :=
  (importsNone p = true) →
  (110 ≤ nd) →
  (Tabs o3 k3 o7 k7 news) →
  (b0 ≠ 0) →
  (b0 < 0 → ∀ t1 t2, Spec w p loose mean mg mb nd ((30, o3) :: k3 :: (37, o7) :: k7 :: news) 56 [.int (-a0) t1, .int (-b0) t2] [] (isDT (-a0) (-b0) k3 k7 news)) →
  (0 < b0 → a0 < 0 → ∀ t1 t2, Spec w p loose mean mg mb nd ((30, o3) :: k3 :: (37, o7) :: k7 :: news) 56 [.int (-a0 - 1) t1, .int b0 t2] [] (isDT (-a0 - 1) b0 k3 k7 news)) →
  (0 < b0 → 0 ≤ a0 → DmPre a0 b0) →
  RunD w p loose mean mg mb (nd + 2) ((30, o3) :: k3 :: (37, o7) :: k7 :: news) 56 (isDT a0 b0 k3 k7 news) (Str.ofString "int_divmod") fb7.1 fb7.2 (.ref 55) [(Str.ofString "a", .int a0 t1), (Str.ofString "b", .int b0 t2)] dp un gd cn cs a ccd cl outer A₀ base h₀ L m s Q E g' L' h'
abbrev V_LC8 := (World) × (Program) × (List Str) × (ExcName → Option Value) × (Str → Option Value) × (Str → Option Value) × (Nat) × (List (Addr × Obj)) × (Obj) × (Obj) × (Addr × Obj) × (Addr × Obj) × (Int) × (Int) × (Tok) × (Tok) × (Nat) × (Nat) × (Option (List Code)) × (Str) × (Scope) × (Addr) × (Value) × (List (Str × Addr)) × (List Env) × (Around) × (Heap) × (Heap) × (Addr) × (Str → Option Value) × (Shared) × (Value → Shared → Prop) × (Value → Shared → Prop) × (Heap) × (Addr) × (Heap)
def D_idm_step (v : V_LC8) : Prop := C_idm_step v.1 v.2.1 v.2.2.1 v.2.2.2.1 v.2.2.2.2.1 v.2.2.2.2.2.1 v.2.2.2.2.2.2.1 v.2.2.2.2.2.2.2.1 v.2.2.2.2.2.2.2.2.1 v.2.2.2.2.2.2.2.2.2.1 v.2.2.2.2.2.2.2.2.2.2.1 v.2.2.2.2.2.2.2.2.2.2.2.1 v.2.2.2.2.2.2.2.2.2.2.2.2.1 v.2.2.2.2.2.2.2.2.2.2.2.2.2.1 v.2.2.2.2.2.2.2.2.2.2.2.2.2.2.1 v.2.2.2.2.2.2.2.2.2.2.2.2.2.2.2.1 v.2.2.2.2.2.2.2.2.2.2.2.2.2.2.2.2.1 v.2.2.2.2.2.2.2.2.2.2.2.2.2.2.2.2.2.1 v.2.2.2.2.2.2.2.2.2.2.2.2.2.2.2.2.2.2.1 v.2.2.2.2.2.2.2.2.2.2.2.2.2.2.2.2.2.2.2.1 v.2.2.2.2.2.2.2.2.2.2.2.2.2.2.2.2.2.2.2.2.1 v.2.2.2.2.2.2.2.2.2.2.2.2.2.2.2.2.2.2.2.2.2.1 v.2.2.2.2.2.2.2.2.2.2.2.2.2.2.2.2.2.2.2.2.2.2.1 v.2.2.2.2.2.2.2.2.2.2.2.2.2.2.2.2.2.2.2.2.2.2.2.1 v.2.2.2.2.2.2.2.2.2.2.2.2.2.2.2.2.2.2.2.2.2.2.2.2.1 v.2.2.2.2.2.2.2.2.2.2.2.2.2.2.2.2.2.2.2.2.2.2.2.2.2.1 v.2.2.2.2.2.2.2.2.2.2.2.2.2.2.2.2.2.2.2.2.2.2.2.2.2.2.1 v.2.2.2.2.2.2.2.2.2.2.2.2.2.2.2.2.2.2.2.2.2.2.2.2.2.2.2.1 v.2.2.2.2.2.2.2.2.2.2.2.2.2.2.2.2.2.2.2.2.2.2.2.2.2.2.2.2.1 v.2.2.2.2.2.2.2.2.2.2.2.2.2.2.2.2.2.2.2.2.2.2.2.2.2.2.2.2.2.1 v.2.2.2.2.2.2.2.2.2.2.2.2.2.2.2.2.2.2.2.2.2.2.2.2.2.2.2.2.2.2.1 v.2.2.2.2.2.2.2.2.2.2.2.2.2.2.2.2.2.2.2.2.2.2.2.2.2.2.2.2.2.2.2.1 v.2.2.2.2.2.2.2.2.2.2.2.2.2.2.2.2.2.2.2.2.2.2.2.2.2.2.2.2.2.2.2.2.1 v.2.2.2.2.2.2.2.2.2.2.2.2.2.2.2.2.2.2.2.2.2.2.2.2.2.2.2.2.2.2.2.2.2.1 v.2.2.2.2.2.2.2.2.2.2.2.2.2.2.2.2.2.2.2.2.2.2.2.2.2.2.2.2.2.2.2.2.2.2.1 v.2.2.2.2.2.2.2.2.2.2.2.2.2.2.2.2.2.2.2.2.2.2.2.2.2.2.2.2.2.2.2.2.2.2.2
def VP_LC8 (v : V_LC8) : Prop := D_idm_step v
theorem ne_LC8 : Nonempty V_LC8 := ⟨((⟨fun _ _ => 0, { strHash := fun _ => 0, shareClass := fun _ => 0, mergeTok := id, idOf := fun _ => 0, idOfShared := fun _ _ => 0, followText := fun _ => false, idOfImm := fun _ => 0 }⟩ : World), (default : Program), ([] : List Str), (fun _  => none), (fun _  => none), (fun _  => none), (0 : Nat), ([] : List (Addr × Obj)), (⟨.none, none, .plain, #[]⟩ : Obj), (⟨.none, none, .plain, #[]⟩ : Obj), ((0, ⟨.none, none, .plain, #[]⟩) : Addr × Obj), ((0, ⟨.none, none, .plain, #[]⟩) : Addr × Obj), (0 : Int), (0 : Int), (0 : Tok), (0 : Tok), (0 : Nat), (0 : Nat), (none : Option (List Code)), (Str.empty : Str), (default : Scope), (0 : Addr), (.none : Value), ([] : List (Str × Addr)), ([] : List Env), ({} : Around), ({} : Heap), ({} : Heap), (0 : Addr), (fun _  => none), ({} : Shared), (fun _ _  => True), (fun _ _  => True), ({} : Heap), (0 : Addr), ({} : Heap))⟩
noncomputable def k_LC8 : {v : V_LC8 // VP_LC8 v → ∀ x, VP_LC8 x} := Classical.choice (drink ne_LC8 VP_LC8)
noncomputable def K_LC8.w : World := k_LC8.1.1
noncomputable def K_LC8.p : Program := k_LC8.1.2.1
noncomputable def K_LC8.loose : List Str := k_LC8.1.2.2.1
noncomputable def K_LC8.mean : ExcName → Option Value := k_LC8.1.2.2.2.1
noncomputable def K_LC8.mg : Str → Option Value := k_LC8.1.2.2.2.2.1
noncomputable def K_LC8.mb : Str → Option Value := k_LC8.1.2.2.2.2.2.1
noncomputable def K_LC8.nd : Nat := k_LC8.1.2.2.2.2.2.2.1
noncomputable def K_LC8.news : List (Addr × Obj) := k_LC8.1.2.2.2.2.2.2.2.1
noncomputable def K_LC8.o3 : Obj := k_LC8.1.2.2.2.2.2.2.2.2.1
noncomputable def K_LC8.o7 : Obj := k_LC8.1.2.2.2.2.2.2.2.2.2.1
noncomputable def K_LC8.k3 : Addr × Obj := k_LC8.1.2.2.2.2.2.2.2.2.2.2.1
noncomputable def K_LC8.k7 : Addr × Obj := k_LC8.1.2.2.2.2.2.2.2.2.2.2.2.1
noncomputable def K_LC8.a0 : Int := k_LC8.1.2.2.2.2.2.2.2.2.2.2.2.2.1
noncomputable def K_LC8.b0 : Int := k_LC8.1.2.2.2.2.2.2.2.2.2.2.2.2.2.1
noncomputable def K_LC8.t1 : Tok := k_LC8.1.2.2.2.2.2.2.2.2.2.2.2.2.2.2.1
noncomputable def K_LC8.t2 : Tok := k_LC8.1.2.2.2.2.2.2.2.2.2.2.2.2.2.2.2.1
noncomputable def K_LC8.dp : Nat := k_LC8.1.2.2.2.2.2.2.2.2.2.2.2.2.2.2.2.2.1
noncomputable def K_LC8.un : Nat := k_LC8.1.2.2.2.2.2.2.2.2.2.2.2.2.2.2.2.2.2.1
noncomputable def K_LC8.gd : Option (List Code) := k_LC8.1.2.2.2.2.2.2.2.2.2.2.2.2.2.2.2.2.2.2.1
noncomputable def K_LC8.cn : Str := k_LC8.1.2.2.2.2.2.2.2.2.2.2.2.2.2.2.2.2.2.2.2.1
noncomputable def K_LC8.cs : Scope := k_LC8.1.2.2.2.2.2.2.2.2.2.2.2.2.2.2.2.2.2.2.2.2.1
noncomputable def K_LC8.a : Addr := k_LC8.1.2.2.2.2.2.2.2.2.2.2.2.2.2.2.2.2.2.2.2.2.2.1
noncomputable def K_LC8.ccd : Value := k_LC8.1.2.2.2.2.2.2.2.2.2.2.2.2.2.2.2.2.2.2.2.2.2.2.1
noncomputable def K_LC8.cl : List (Str × Addr) := k_LC8.1.2.2.2.2.2.2.2.2.2.2.2.2.2.2.2.2.2.2.2.2.2.2.2.1
noncomputable def K_LC8.outer : List Env := k_LC8.1.2.2.2.2.2.2.2.2.2.2.2.2.2.2.2.2.2.2.2.2.2.2.2.2.1
noncomputable def K_LC8.A₀ : Around := k_LC8.1.2.2.2.2.2.2.2.2.2.2.2.2.2.2.2.2.2.2.2.2.2.2.2.2.2.1
noncomputable def K_LC8.base : Heap := k_LC8.1.2.2.2.2.2.2.2.2.2.2.2.2.2.2.2.2.2.2.2.2.2.2.2.2.2.2.1
noncomputable def K_LC8.h₀ : Heap := k_LC8.1.2.2.2.2.2.2.2.2.2.2.2.2.2.2.2.2.2.2.2.2.2.2.2.2.2.2.2.1
noncomputable def K_LC8.L : Addr := k_LC8.1.2.2.2.2.2.2.2.2.2.2.2.2.2.2.2.2.2.2.2.2.2.2.2.2.2.2.2.2.1
noncomputable def K_LC8.m : Str → Option Value := k_LC8.1.2.2.2.2.2.2.2.2.2.2.2.2.2.2.2.2.2.2.2.2.2.2.2.2.2.2.2.2.2.1
noncomputable def K_LC8.s : Shared := k_LC8.1.2.2.2.2.2.2.2.2.2.2.2.2.2.2.2.2.2.2.2.2.2.2.2.2.2.2.2.2.2.2.1
noncomputable def K_LC8.Q : Value → Shared → Prop := k_LC8.1.2.2.2.2.2.2.2.2.2.2.2.2.2.2.2.2.2.2.2.2.2.2.2.2.2.2.2.2.2.2.2.1
noncomputable def K_LC8.E : Value → Shared → Prop := k_LC8.1.2.2.2.2.2.2.2.2.2.2.2.2.2.2.2.2.2.2.2.2.2.2.2.2.2.2.2.2.2.2.2.2.1
noncomputable def K_LC8.g' : Heap := k_LC8.1.2.2.2.2.2.2.2.2.2.2.2.2.2.2.2.2.2.2.2.2.2.2.2.2.2.2.2.2.2.2.2.2.2.1
noncomputable def K_LC8.L' : Addr := k_LC8.1.2.2.2.2.2.2.2.2.2.2.2.2.2.2.2.2.2.2.2.2.2.2.2.2.2.2.2.2.2.2.2.2.2.2.1
noncomputable def K_LC8.h' : Heap := k_LC8.1.2.2.2.2.2.2.2.2.2.2.2.2.2.2.2.2.2.2.2.2.2.2.2.2.2.2.2.2.2.2.2.2.2.2.2
section
open K_LC8
theorem c_idm_step : C_idm_step w p loose mean mg mb nd news o3 o7 k3 k7 a0 b0 t1 t2 dp un gd cn cs a ccd cl outer A₀ base h₀ L m s Q E g' L' h' := by
  unfold C_idm_step RunD
  dsimp only [fb7]
  k_fill
  intro hip hnd hT hb ihB ihA H B F X N T hk hdp hun hret FG' F' N' B' X' T'
  (try dsimp only)
  (try dsimp only [List.reverse, List.reverseAux, List.lookup] at F')
  (try k_lift B')
  (try k_fold)
  k_steps
  refine Stop.go ?_
  rw [if_neg (by simpa using hb)]
  k_steps
  refine Stop.go ?_
  split
  · rename (decide _ = true) => hc
    have hb0 := of_decide_eq_true hc
    k_steps
    refine Stop.go ?_
    k_dflt (refine' Spec.useDT (ihB hb0 _ _) ?k1 ?k2 ?k3 ?k4 ?k5 ?kK ?kd ?ku ?_)
    walk_at "my:use"
    intro q z l t u o3' c3 b3 o7' c7 b7 h' tk' F' N' e1 e2 hT' hl s3 s7
    (try dsimp only)
    have hl' := fun p hp => (hl p hp : @Ne Nat p.1 l)
    k_steps
    rename (_ ∧ _ ∧ _ ∧ _ ∧ _ ∧ AllLt _ news) => ltT
    obtain ⟨u1, u2, u3, u4, u5, u6⟩ := ltT
    have bn : ∀ x, Builtin.bitNot x = -x - 1 := fun _ => rfl
    simp only [bn] at *
    refine' ret_isDT ?e0 ?e1 ?e2 ?e3 ?e7 ?e8 hT' ?e4 s3 s7
    (case e0 => assumption)
    (case e1 => k_asm)
    (case e2 => k_asm)
    (case e3 => exact List.forall_mem_cons.mpr ⟨.head _, List.forall_mem_cons.mpr ⟨.tail _ (.tail _ (.head _)), List.forall_mem_cons.mpr ⟨.tail _ (.tail _ (.tail _ (.head _))), List.forall_mem_cons.mpr ⟨.tail _ (.tail _ (.tail _ (.tail _ (.head _)))), List.forall_mem_cons.mpr ⟨.tail _ (.tail _ (.tail _ (.tail _ (.tail _ (.head _))))), fun p hp => .tail _ (.tail _ (.tail _ (.tail _ (.tail _ (.tail _ hp)))))⟩⟩⟩⟩⟩)
    (case e4 => exact List.forall_mem_cons.mpr ⟨Nat.ne_of_lt u2, List.forall_mem_cons.mpr ⟨Nat.ne_of_lt u3, List.forall_mem_cons.mpr ⟨Nat.ne_of_lt u4, List.forall_mem_cons.mpr ⟨Nat.ne_of_lt u5, fun p hp => Nat.ne_of_lt (ktn_ltOf u6 p hp)⟩⟩⟩⟩)
    (case e7 => (have e9 : q * -b0 = -(q * b0) := Int.mul_neg _ _); omega)
    (case e8 => omega)
  · rename (¬ (decide _ = true)) => hc
    have hb0 : 0 < b0 := by
      have hx : ¬ b0 < 0 := fun e => hc (decide_eq_true e)
      omega
    k_steps
    refine Stop.go ?_
    split
    · rename (decide _ = true) => hc2
      have ha0 := of_decide_eq_true hc2
      k_steps
      refine Stop.go ?_
      k_dflt (refine' Spec.useDT (ihA hb0 ha0 _ _) ?k1 ?k2 ?k3 ?k4 ?k5 ?kK ?kd ?ku ?_)
      walk_at "my:use"
      intro q z l t u o3' c3 b3 o7' c7 b7 h' tk' F' N' e1 e2 hT' hl s3 s7
      (try dsimp only)
      have hl' := fun p hp => (hl p hp : @Ne Nat p.1 l)
      k_steps
      rename (_ ∧ _ ∧ _ ∧ _ ∧ _ ∧ AllLt _ news) => ltT
      obtain ⟨u1, u2, u3, u4, u5, u6⟩ := ltT
      have bn : ∀ x, Builtin.bitNot x = -x - 1 := fun _ => rfl
      simp only [bn] at *
      refine' ret_isDT ?e0 ?e1 ?e2 ?e3 ?e7 ?e8 hT' ?e4 s3 s7
      (case e0 => assumption)
      (case e1 => k_asm)
      (case e2 => k_asm)
      (case e3 => exact List.forall_mem_cons.mpr ⟨.head _, List.forall_mem_cons.mpr ⟨.tail _ (.tail _ (.head _)), List.forall_mem_cons.mpr ⟨.tail _ (.tail _ (.tail _ (.head _))), List.forall_mem_cons.mpr ⟨.tail _ (.tail _ (.tail _ (.tail _ (.head _)))), List.forall_mem_cons.mpr ⟨.tail _ (.tail _ (.tail _ (.tail _ (.tail _ (.head _))))), fun p hp => .tail _ (.tail _ (.tail _ (.tail _ (.tail _ (.tail _ hp)))))⟩⟩⟩⟩⟩)
      (case e4 => exact List.forall_mem_cons.mpr ⟨Nat.ne_of_lt u2, List.forall_mem_cons.mpr ⟨Nat.ne_of_lt u3, List.forall_mem_cons.mpr ⟨Nat.ne_of_lt u4, List.forall_mem_cons.mpr ⟨Nat.ne_of_lt u5, fun p hp => Nat.ne_of_lt (ktn_ltOf u6 p hp)⟩⟩⟩⟩)
      (case e7 => (have e9 : (-q - 1) * b0 = -(q * b0) - b0 := by rw [Int.sub_mul, Int.neg_mul]; omega); omega)
      (case e8 => omega)
    · rename (¬ (decide _ = true)) => hc2
      have ha0 : 0 ≤ a0 := by
        have hx : ¬ a0 < 0 := fun e => hc2 (decide_eq_true e)
        omega
      k_steps
      refine Stop.go ?_
      k_dflt (refine' Spec.useDT (spec_dmp w p loose mean mg mb hip _ _ _ _ _ hT _ _ (H hb0 ha0) _ _) ?k1 ?k2 ?k3 ?k4 ?k5 ?kK ?kd ?ku ?_)
      walk_at "my:use"
      intro q z l t u o3' c3 b3 o7' c7 b7 h' tk' F' N' e1 e2 hT' hl s3 s7
      (try dsimp only)
      k_steps
      refine' ret_isDT ?e0 ?e1 ?e2 ?e3 e1 e2 hT' hl s3 s7
      (case e0 => assumption)
      (case e1 => k_asm)
      (case e2 => k_asm)
      (case e3 => exact fun _ h => h)
end
theorem all_LC8 : ∀ v, VP_LC8 v := k_LC8.2 c_idm_step
section
variable (w : World) (p : Program) (loose : List Str) (mean : ExcName → Option Value) (mg mb : Str → Option Value)
theorem idm_step (hip : importsNone p = true) (nd : Nat) (hnd : 110 ≤ nd) (news : List (Addr × Obj)) (o3 o7 : Obj) (k3 k7 : Addr × Obj) (hT : Tabs o3 k3 o7 k7 news) (a0 b0 : Int) (hb : b0 ≠ 0) (t1 t2 : Tok)
    (ihB : b0 < 0 → ∀ t1 t2, Spec w p loose mean mg mb nd ((30, o3) :: k3 :: (37, o7) :: k7 :: news) 56 [.int (-a0) t1, .int (-b0) t2] [] (isDT (-a0) (-b0) k3 k7 news))
    (ihA : 0 < b0 → a0 < 0 → ∀ t1 t2, Spec w p loose mean mg mb nd ((30, o3) :: k3 :: (37, o7) :: k7 :: news) 56 [.int (-a0 - 1) t1, .int b0 t2] [] (isDT (-a0 - 1) b0 k3 k7 news))
    (H : 0 < b0 → 0 ≤ a0 → DmPre a0 b0) :
    Spec w p loose mean mg mb (nd + 2) ((30, o3) :: k3 :: (37, o7) :: k7 :: news) 56 [.int a0 t1, .int b0 t2] [] (isDT a0 b0 k3 k7 news) := by
  refine' spec_body (qual := Str.ofString "int_divmod") (body := fb7.1) (scope := fb7.2) (cdv := .ref 55) (binds := [(Str.ofString "a", .int a0 t1), (Str.ofString "b", .int b0 t2)]) (fun z0 z1 z2 z3 z4 z5 z6 z7 z8 z9 z10 z11 z12 z13 z14 z15 z16 z17 z18 z19 => (all_LC8 (w, p, loose, mean, mg, mb, nd, news, o3, o7, k3, k7, a0, b0, t1, t2, z0, z1, z2, z3, z4, z5, z6, z7, z8, z9, z10, z11, z12, z13, z14, z15, z16, z17, z18, z19)) hip hnd hT hb ihB ihA H) ?ho ?hcd ?h1 ?hb ?hl ?c1 ?c2 ?c3 ?hc
  (case c1 => exact rfl); (case c2 => exact rfl); (case c3 => exact rfl)
  (case ho => k_is)
  (case hcd => k_is)
  (case h1 => omega)
  (case hb => exact fun _ _ _ _ _ _ => BindsTo.of_eq rfl)
  (case hl => exact locs rfl)
  (case hc => decide)
end
section
variable (w : World) (p : Program) (loose : List Str) (mean : ExcName → Option Value) (mg mb : Str → Option Value)
theorem spec_idm (hip : importsNone p = true) (news : List (Addr × Obj)) (o3 o7 : Obj) (k3 k7 : Addr × Obj) (hT : Tabs o3 k3 o7 k7 news) (a0 b0 : Int) (hb : b0 ≠ 0)
    (H : ∀ a b, 0 ≤ a → 0 < b → (b = b0 ∨ b = -b0) → (a = a0 ∨ a = -a0 ∨ a = -a0 - 1 ∨ a = a0 - 1) → DmPre a b) (t1 t2 : Tok) :
    Spec w p loose mean mg mb 116 ((30, o3) :: k3 :: (37, o7) :: k7 :: news) 56 [.int a0 t1, .int b0 t2] [] (isDT a0 b0 k3 k7 news) := by
  have pos : ∀ a b, 0 ≤ a → 0 < b → DmPre a b → ∀ t1 t2, Spec w p loose mean mg mb 112 ((30, o3) :: k3 :: (37, o7) :: k7 :: news) 56 [.int a t1, .int b t2] [] (isDT a b k3 k7 news) := fun a b h0 h1 h2 t1 t2 =>
    idm_step w p loose mean mg mb hip 110 (Nat.le_refl _) news o3 o7 k3 k7 hT a b (by omega) t1 t2 (fun h => absurd h (by omega)) (fun _ h => absurd h (by omega)) (fun _ _ => h2)
  have any : ∀ a b, 0 < b → (0 ≤ a → DmPre a b) → (a < 0 → DmPre (-a - 1) b) → ∀ t1 t2, Spec w p loose mean mg mb 114 ((30, o3) :: k3 :: (37, o7) :: k7 :: news) 56 [.int a t1, .int b t2] [] (isDT a b k3 k7 news) := fun a b h1 h2 h3 t1 t2 =>
    idm_step w p loose mean mg mb hip 112 (by decide) news o3 o7 k3 k7 hT a b (by omega) t1 t2 (fun h => absurd h (by omega)) (fun _ h => pos _ _ (by omega) h1 (h3 h)) (fun _ h => h2 h)
  refine idm_step w p loose mean mg mb hip 114 (by decide) news o3 o7 k3 k7 hT a0 b0 hb t1 t2 (fun h => any _ _ (by omega) (fun h' => H _ _ h' (by omega) (by omega) (by omega)) (fun h' => H _ _ (by omega) (by omega) (by omega) (by omega)))
    (fun h h' => any _ _ h (fun h'' => H _ _ h'' h (by omega) (by omega)) (fun h'' => absurd h'' (by omega))) (fun h h' => H _ _ h' h (by omega) (by omega))
end
end
end
theorem off_LC8 : True := trivial
-- LS
theorem again_LS : True := by w_top off; (try walk1); trivial
section
section
variable (w : World) (p : Program) (loose : List Str) (mean : ExcName → Option Value) (mg mb : Str → Option Value)
theorem lay_14 : True := by
  k_with "subscriptTail" => ((fail_if_success (have z9 := off_LS)); (k_here; (with_reducible show wpAny _ _ (subscriptTail _ _ (Value.ref _) (Value.int _ _)) _ _ _); k_dflt (refine' ksa_sub (by k_asm) (by k_mem) (by assumption) (by decide) (by decide) (by decide) ?_ (by with_unfolding_all rfl); k_whole); intro _))
  trivial
theorem spec_get0 (news : List (Addr × Obj)) (l : Addr) (x y : Int) (vs : List Value) (hi : IntsAre vs [x, y]) (n : Nat) (hm : (l, W.listOf vs.toArray n) ∈ news) (t3 : Tok) :
    Spec w p loose mean mg mb 1 news 183 [.ref l, .int 0 t3] [] (isI x news) := by
  unfold Spec
  k_fill
  intro dp un gd cn cs a ccd cl outer A₀ base h₀ L m s Q E B F X N T hk hdp hun hret
  refine wpAny_call ?_
  k_dflt (refine' code_def (binds := [(Str.ofString "a", .ref l), (Str.ofString "b", .int 0 t3)]) ?k1 ?k2 ?k3 ?k4 ?k5 ?kA ?kF ?kK ?k6 ?k7 ?k8 ?k9 ?kB ?_ ?c2 ?c3 ?c4 ?c5; walk_at "my:enter")
  k_steps
  walk_at "my:out"
theorem spec_get1 (news : List (Addr × Obj)) (l : Addr) (x y : Int) (vs : List Value) (hi : IntsAre vs [x, y]) (n : Nat) (hm : (l, W.listOf vs.toArray n) ∈ news) (t3 : Tok) :
    Spec w p loose mean mg mb 1 news 183 [.ref l, .int 1 t3] [] (isI y news) := by
  unfold Spec
  k_fill
  intro dp un gd cn cs a ccd cl outer A₀ base h₀ L m s Q E B F X N T hk hdp hun hret
  refine wpAny_call ?_
  k_dflt (refine' code_def (binds := [(Str.ofString "a", .ref l), (Str.ofString "b", .int 1 t3)]) ?k1 ?k2 ?k3 ?k4 ?k5 ?kA ?kF ?kK ?k6 ?k7 ?k8 ?k9 ?kB ?_ ?c2 ?c3 ?c4 ?c5; walk_at "my:enter")
  k_steps
  walk_at "my:out"
theorem lay_15 : True := by
  k_with "call ref" => ((fail_if_success (have z9 := off_LS)); (k_here; (with_reducible show wpAny _ _ (call (Value.ref 183) _ _) _ _ _); k_dflt (first | refine' Spec.useI (spec_get0 _ _ _ _ _ _ _ _ _ _ _ (by assumption) _ (by assumption) _) (by k_asm) (by k_asm) (by k_asm) (by k_asm) (by k_asm) (by first | exact rfl | assumption) (by ktr_room) (by ktr_units) ?_ | refine' Spec.useI (spec_get1 _ _ _ _ _ _ _ _ _ _ _ (by assumption) _ (by assumption) _) (by k_asm) (by k_asm) (by k_asm) (by k_asm) (by k_asm) (by first | exact rfl | assumption) (by ktr_room) (by ktr_units) ?_); walk_at "my:useE"))
  trivial
theorem spec_head (news : List (Addr × Obj)) (l : Addr) (x y : Int) (vs : List Value) (hi : IntsAre vs [x, y]) (n : Nat) (hm : (l, W.listOf vs.toArray n) ∈ news) :
    Spec w p loose mean mg mb 2 news 190 [.ref l] [] (isI x news) := by
  unfold Spec
  k_fill
  intro dp un gd cn cs a ccd cl outer A₀ base h₀ L m s Q E B F X N T hk hdp hun hret
  refine wpAny_call ?_
  k_dflt (refine' code_def (binds := [(Str.ofString "pair", .ref l)]) ?k1 ?k2 ?k3 ?k4 ?k5 ?kA ?kF ?kK ?k6 ?k7 ?k8 ?k9 ?kB ?_ ?c2 ?c3 ?c4 ?c5; walk_at "my:enter")
  k_steps
  walk_at "my:out"
theorem spec_tail (news : List (Addr × Obj)) (l : Addr) (x y : Int) (vs : List Value) (hi : IntsAre vs [x, y]) (n : Nat) (hm : (l, W.listOf vs.toArray n) ∈ news) :
    Spec w p loose mean mg mb 2 news 197 [.ref l] [] (isI y news) := by
  unfold Spec
  k_fill
  intro dp un gd cn cs a ccd cl outer A₀ base h₀ L m s Q E B F X N T hk hdp hun hret
  refine wpAny_call ?_
  k_dflt (refine' code_def (binds := [(Str.ofString "pair", .ref l)]) ?k1 ?k2 ?k3 ?k4 ?k5 ?kA ?kF ?kK ?k6 ?k7 ?k8 ?k9 ?kB ?_ ?c2 ?c3 ?c4 ?c5; walk_at "my:enter")
  k_steps
  walk_at "my:out"
end
end
theorem off_LS : True := trivial
-- LS2
theorem again_LS2 : True := by w_top off; (try walk1); trivial
section
section
variable {prog : Program} {w : World} {A₀ A : Around} {s : Shared} {base h₀ : Heap} {L f : Addr} {m : Str → Option Value} {env : Env} {news : List (Addr × Obj)} {K : Frag} {p : Program} {loose : List Str} {mean : ExcName → Option Value} {mg mb : Str → Option Value}
  {R : Result → Shared → Prop} {name qual : Str} {params : Arguments} {body : List Stmt} {scope : Scope} {dV kV doc pm cdv ct oc : Value} {an od : Option Addr} {osl : Array (Option Value)} {args : Args} {binds : List (Str × Value)}
theorem try_in (hf : env.frame = some L) (hck : env.scope.kind = .function) (B : Below A₀ base [] h₀) (F : Fr h₀ L s.heap m) (X₀ : K.In h₀) (N : News h₀ L s.heap news) (T : Top p loose mean mg mb h₀) (hA : A.frames = some [env])
    (ho : K.lookup f = some ⟨oc, od, .func (fnOf name qual params body scope dV kV doc pm an cdv ct), osl⟩) (hcd : codeIn K cdv qual = true) (hroom : A.depth < recursionLimit)
    (hbind : BindsTo s (fnOf name qual params body scope dV kV doc pm an cdv ct) args binds) (hloc : ∀ y ∈ binds, scope.names.lookup y.1 = some .local)
    (h : ∀ g L' h₁, Fr h₀ L g m → Fr g L' h₁ (fun y => binds.reverse.lookup y) → News g L' h₁ news → Below A base [env] g → K.In g → Top p loose mean mg mb g → KtsDicts ([env].filterMap (·.frame)) g →
      wpAny (model prog w) (A.deeper (envOf qual scope L' f cdv)) (execs body (envOf qual scope L' f cdv))
        (fun fl s' => LeaveS0 ([env].filterMap (·.frame)) h₀ L m g R (match fl with | .ret v => v | _ => .none) s')
        (fun e s' => wpAny (model prog w) (A.deeper (envOf qual scope L' f cdv)) (leaving (envOf qual scope L' f cdv) e) (fun _ s'' => R (.error e) s'') (fun e' s'' => R (.error e') s'') s')
        { s with heap := h₁, toks := s.toks + binds.length })
    (hco : scope.isCoroutine = false) (hgen : scope.isGenerator = false) (hk : scope.kind = .function)
    (hcell : ∀ x ∈ scope.names, x.2 ≠ .cell) : codeAny (model prog w) A (.call (.ref f) args) R s := by
  have hfs : [env].filterMap (·.frame) = [L] := by simp [hf]
  have hid : ∀ b o, h₀.get? b = some o → (hideAll s.heap (news.map (·.1))).get? b = some o := fun b o e => hideAll_get _ (F.keep b o e) fun q => by
    obtain ⟨z, hz, rfl⟩ := List.mem_map.mp q
    rw [(N z hz).2.2] at e
    cases e
  obtain ⟨oL, es, ep, hL, hLd, hLk, hLf⟩ := F.ns
  have hG := hideAll_get (news.map (·.1)) hL fun q => by
    obtain ⟨z, hz, e⟩ := List.mem_map.mp q
    exact (N z hz).2.1 e
  have n0 : h₀.get? L = none := kts_self F
  have nb : base.get? L = none := kts_none B.stays n0
  have FG : Fr h₀ L (hideAll s.heap (news.map (·.1))) m := ⟨⟨oL, es, ep, hG, hLd, hLk, hLf⟩, hid, F.above⟩
  have B₁ : Below (A₀.deeper env) base [env] (hideAll s.heap (news.map (·.1))) := pushX B FG hf hck
  refine codeAny_call_def (fd := fnOf name qual params body scope dV kV doc pm an cdv ct) (body := body) (binds := binds) hroom ((X₀.keeps F.keep) _ _ ho) rfl (T.nolimit.keeps F.keep) (codeRec_of (X₀.keeps F.keep) hcd) rfl hbind hcell hloc (fun h₁ hns hk₁ => ?_) hco hgen hk
  refine wpAny_mono (h _ s.heap.objs.size h₁ FG ⟨hns, fun b o e => hk₁ b o (of_hideAll _ e), Nat.le_of_eq (hideAll_size _ _)⟩
    (fun z hz => ⟨hk₁ _ _ (N z hz).1, Nat.ne_of_lt (Heap.lt_size (N z hz).1), hideAll_none _ (List.mem_map_of_mem hz)⟩) ⟨hA, B₁.stays, B₁.frames⟩ (X₀.keeps hid) (T.keeps hid) ?_) (fun fl s' hl => ?_) fun _ _ y => y
  · rw [hfs]
    intro b hb
    obtain rfl := List.mem_singleton.mp hb
    exact ⟨oL, es, ep, hG, hLd⟩
  · obtain ⟨g', L', m', news', T', F', N', k⟩ := hl
    rw [hfs] at T'
    obtain ⟨sl, hs⟩ := T'.frame _ _ hG List.mem_cons_self
    have keepG : ∀ b o, h₀.get? b = some o → g'.get? b = some o := fun b o e => T'.other b o (hid b o e) fun q => by
      rw [List.mem_singleton.mp q, n0] at e
      cases e
    refine k ⟨⟨_, es, ep, F'.keep _ _ hs, hLd, hLk, hLf⟩, fun b o e => F'.keep b o (keepG b o e), F.above⟩ fun z hz => ⟨(N' z hz).1, fun q => ?_, ?_⟩
    · have := (N' z hz).2.2
      rw [q, hs] at this
      cases this
    · exact kts_none keepG (N' z hz).2.2
end
section
variable (w : World) (p : Program) (loose : List Str) (mean : ExcName → Option Value) (mg mb : Str → Option Value)
theorem lay_16 : True := by
  k_with "exec Raise some none" => ((fail_if_success (have z9 := off_LS2)); (k_here; (with_reducible rename Fr _ _ _ _ => zkF); k_dflt (refine' Raise_classB rfl excClass_ZeroDivisionError (by rw [isSubtype_type]; kernel_rfl) (by refine' name_B zkF (by k_asm) (by k_asm) (by k_is) (by boot_by_name) (by decide) ?_; exact ⟨rfl, rfl⟩) ?_); intro _ _ _))
  trivial
def SpecB (w : World) (p : Program) (loose : List Str) (mean : ExcName → Option Value) (mg mb : Str → Option Value) (need : Nat) (news : List (Addr × Obj)) (f : Addr) (vs : List Value) (Post : Value → List (Addr × Obj) → Prop) : Prop :=
  ∀ (dp un : Nat) (gd : Option (List Code)) (cn : Str) (cs : Scope) (a : Addr) (ccd : Value) (cl : List (Str × Addr)) (A₀ : Around) (h₀ : Heap) (L : Addr) (m : Str → Option Value) (s : Shared) (Q E : Value → Shared → Prop),
    Below A₀ h₀ [] h₀ → Fr h₀ L s.heap m → (hd.heap_39 w.params).In h₀ → News h₀ L s.heap news → Top p loose mean mg mb h₀ → cs.kind = .function → dp + need < recursionLimit → un + 8 * need < cLine →
    (∀ r news' h' tk', Fr h₀ L h' m → News h₀ L h' news' → Post r news' → Q r { s with heap := h', toks := tk' }) →
    wpAny (model PySem.Challenge.rw_tl0033_01.row.prog w) (ktrTop dp un gd cn cs L a ccd cl []) (call (.ref f) vs) Q E s
theorem spec_refused (news : List (Addr × Obj)) (x : Int) (t1 : Tok) :
    SpecB w p loose mean mg mb 3 news 232 [.int x t1] (fun r nw => r = .bool true ∧ nw = news) := by
  unfold SpecB
  k_fill
  intro dp un gd cn cs a ccd cl A₀ h₀ L m s Q E B F X N T hk hdp hun hret
  refine wpAny_call ?_
  k_dflt (refine' try_in (env := envX cn cs L a ccd cl) (binds := [(Str.ofString "number", .int x t1)]) rfl hk B F X N T rfl ?k6 ?k7 ?k8 ?k9 ?kB ?_ ?c2 ?c3 ?c4 ?c5; (case k6 => k_is); (case k7 => k_is); (case k8 => ktr_room); (case k9 => exact BindsTo.of_eq rfl); (case kB => exact locs rfl); (case c2 => exact rfl); (case c3 => exact rfl); (case c4 => exact rfl); (case c5 => decide); k_whole)
  intro g' L' h' FG' F' N' B' X' T' D'
  (try dsimp only)
  (try dsimp only [List.reverse, List.reverseAux, List.lookup] at F')
  (try k_lift B')
  (try k_fold)
  k_steps
  refine wpAny_call ?_
  k_dflt (refine' code_def ?k1 ?k2 ?k3 ?k4 ?k5 ?kA ?kF ?kK ?k6 ?k7 ?k8 ?k9 ?kB ?_ ?c2 ?c3 ?c4 ?c5; (case kA => exact rfl); (case kF => exact rfl); (case kK => exact rfl); (case k1 => k_asm); (case k2 => k_asm); (case k3 => k_asm); (case k4 => k_asm); (case k5 => k_asm); (case k6 => k_is); (case k7 => k_is); (case k8 => ktr_room); (case k9 => exact BindsTo.of_eq rfl); (case c5 => decide); (case kB => exact locs rfl); (case c2 => exact rfl); (case c3 => exact rfl); (case c4 => exact rfl); k_whole)
  intro g2 L2 h2 FG2 F2 N2 B2 X2 T2
  (try dsimp only)
  (try k_lift B2)
  (try k_fold)
  k_steps
  exact hret _ _ _ _ (by assumption) (by assumption) ⟨rfl, rfl⟩
end
end
theorem off_LS2 : True := trivial
-- LBi
theorem again_LBi : True := by w_top off; (try walk1); trivial
section
noncomputable def cnt (P : Int → Bool) (ks : List Int) (lo hi : Int) : Int := lo + (((ks.drop lo.toNat).take (hi.toNat - lo.toNat)).countP P : Nat)
def Falls (P : Int → Bool) (ks : List Int) : Prop := ∀ i j : Nat, i ≤ j → j < ks.length → P (ks.getD j 0) = true → P (ks.getD i 0) = true
theorem falls_of {P : Int → Bool} {ks : List Int} (hs : ks.Pairwise (fun a b => P b = true → P a = true)) : Falls P ks := by
  intro i j hij hj hp
  rcases Nat.lt_or_eq_of_le hij with h | h
  · rw [List.getD_eq_getElem?_getD, List.getElem?_eq_getElem hj] at hp
    rw [List.getD_eq_getElem?_getD, List.getElem?_eq_getElem (Nat.lt_trans h hj)]
    exact List.pairwise_iff_getElem.mp hs i j (Nat.lt_trans h hj) hj h hp
  · rw [h]; exact hp
structure BW (P : Int → Bool) (ks : List Int) (lo0 hi0 lo hi : Int) : Prop where
  a : lo0 ≤ lo
  b : lo ≤ hi
  c : hi ≤ hi0
  d : ∀ i : Nat, lo0 ≤ i → (i : Int) < lo → P (ks.getD i 0) = true
  e : ∀ i : Nat, hi ≤ i → (i : Int) < hi0 → P (ks.getD i 0) = false
theorem BW.start {P : Int → Bool} {ks : List Int} {lo0 hi0 : Int} (h : lo0 ≤ hi0) : BW P ks lo0 hi0 lo0 hi0 := ⟨Int.le_refl _, h, Int.le_refl _, fun i h1 h2 => by omega, fun i h1 h2 => by omega⟩
structure MidW (lo hi m : Int) : Prop where
  a : lo ≤ m
  b : m < hi
theorem mid_w {lo hi : Int} (h : lo < hi) : MidW lo hi ((lo + hi).fdiv 2) := by
  rw [Int.fdiv_eq_ediv_of_nonneg _ (by decide)]
  exact ⟨by omega, by omega⟩
theorem BW.down {P : Int → Bool} {ks : List Int} {lo0 hi0 lo hi m : Int} (B : BW P ks lo0 hi0 lo hi) (M : MidW lo hi m) (h0 : 0 ≤ lo0) (hl : hi0 ≤ ks.length) (F : Falls P ks) (h : P (ks.getD m.toNat 0) = false) : BW P ks lo0 hi0 lo m := by
  obtain ⟨a, b, c, d, e⟩ := B
  obtain ⟨ma, mb⟩ := M
  refine ⟨a, ma, by omega, d, fun i h1 h2 => ?_⟩
  cases q : P (ks.getD i 0) with
  | false => rfl
  | true => rw [F m.toNat i (by omega) (by omega) q] at h; cases h
theorem BW.up {P : Int → Bool} {ks : List Int} {lo0 hi0 lo hi m : Int} (B : BW P ks lo0 hi0 lo hi) (M : MidW lo hi m) (h0 : 0 ≤ lo0) (hl : hi0 ≤ ks.length) (F : Falls P ks) (h : P (ks.getD m.toNat 0) = true) : BW P ks lo0 hi0 (m + 1) hi := by
  obtain ⟨a, b, c, d, e⟩ := B
  obtain ⟨ma, mb⟩ := M
  exact ⟨by omega, by omega, c, fun i h1 h2 => F i m.toNat (by omega) (by omega) h, e⟩
theorem countP_all {P : Int → Bool} : ∀ (l : List Int), (∀ i : Nat, i < l.length → P (l.getD i 0) = true) → l.countP P = l.length
  | [], _ => rfl
  | x :: l, h => by
    rw [List.countP_cons, countP_all l fun i hi => h (i + 1) (Nat.succ_lt_succ hi)]
    have := h 0 (Nat.zero_lt_succ _)
    rw [List.getD_cons_zero] at this
    rw [this]; rfl
theorem countP_none {P : Int → Bool} : ∀ (l : List Int), (∀ i : Nat, i < l.length → P (l.getD i 0) = false) → l.countP P = 0
  | [], _ => rfl
  | x :: l, h => by
    rw [List.countP_cons, countP_none l fun i hi => h (i + 1) (Nat.succ_lt_succ hi)]
    have := h 0 (Nat.zero_lt_succ _)
    rw [List.getD_cons_zero] at this
    rw [this]; rfl
theorem cnt_nat {P : Int → Bool} {ks : List Int} {x y z : Nat} (a : x ≤ y) (c : y ≤ z) (hl : z ≤ ks.length) (d : ∀ i : Nat, x ≤ i → i < y → P (ks.getD i 0) = true) (e : ∀ i : Nat, y ≤ i → i < z → P (ks.getD i 0) = false) : ((ks.drop x).take (z - x)).countP P = y - x := by
  have e1 : (ks.drop x).take (z - x) = (ks.drop x).take (y - x) ++ (ks.drop y).take (z - y) := by
    rw [show z - x = (y - x) + (z - y) by omega, List.take_add, List.drop_drop, show x + (y - x) = y by omega]
  have l1 : ((ks.drop x).take (y - x)).length = y - x := by
    rw [List.length_take, List.length_drop, Nat.min_eq_left (by omega)]
  have l2 : ((ks.drop y).take (z - y)).length = z - y := by
    rw [List.length_take, List.length_drop, Nat.min_eq_left (by omega)]
  rw [e1, List.countP_append, countP_all, countP_none, l1, Nat.add_zero]
  · intro i hi
    rw [l2] at hi
    rw [List.getD_eq_getElem?_getD, List.getElem?_take_of_lt hi, List.getElem?_drop, ← List.getD_eq_getElem?_getD]
    exact e _ (by omega) (by omega)
  · intro i hi
    rw [l1] at hi
    rw [List.getD_eq_getElem?_getD, List.getElem?_take_of_lt hi, List.getElem?_drop, ← List.getD_eq_getElem?_getD]
    exact d _ (by omega) (by omega)
theorem BW.end_ {P : Int → Bool} {ks : List Int} {lo0 hi0 lo hi : Int} (B : BW P ks lo0 hi0 lo hi) (h0 : 0 ≤ lo0) (hl : hi0 ≤ ks.length) (h : ¬ lo < hi) : lo = cnt P ks lo0 hi0 := by
  obtain ⟨a, b, c, d, e⟩ := B
  obtain rfl : lo = hi := Int.le_antisymm b (Int.not_lt.mp h)
  obtain ⟨x, rfl⟩ := Int.eq_ofNat_of_zero_le h0
  obtain ⟨y, rfl⟩ := Int.eq_ofNat_of_zero_le (Int.le_trans h0 a)
  obtain ⟨z, rfl⟩ := Int.eq_ofNat_of_zero_le (Int.le_trans (Int.le_trans h0 a) c)
  have a' := Int.ofNat_le.mp a
  unfold cnt
  rw [Int.toNat_natCast, Int.toNat_natCast, cnt_nat a' (Int.ofNat_le.mp c) (Int.ofNat_le.mp hl) (fun i h1 h2 => d i (Int.ofNat_le.mpr h1) (Int.ofNat_lt.mpr h2)) (fun i h1 h2 => e i (Int.ofNat_le.mpr h1) (Int.ofNat_lt.mpr h2)), Int.ofNat_sub a']
  exact (show (x : Int) + (y - x) = y by omega).symm
theorem len_at {prog : Program} {w : World} {A : Around} {h₀ : Heap} {L D : Addr} {news : List (Addr × Obj)} {s : Shared} {E : Value → Shared → Prop} {vs : List Value} {n : Nat} {Q : Value → Shared → Prop}
    (N : News h₀ L s.heap news) (hm : (D, W.listOf vs.toArray n) ∈ news) (hfit : (vs.length : Int) < 2 ^ 63) (h : Q (.int vs.length (s.toks + 1)) { s with toks := s.toks + 1 + 1 }) :
    wpAny (model prog w) A (call (.builtin "len") [.ref D]) Q E s := len_list (PySem.IsL.isList (n := n) (N _ hm).1) hfit h
theorem sub_at {prog : Program} {w : World} {A : Around} {h₀ : Heap} {L D : Addr} {news : List (Addr × Obj)} {s : Shared} {E : Value → Shared → Prop} {vs : List Value} {n : Nat} {k : Int} {u : Tok} {value slice : PySem.Expr} {Q : Value → Shared → Prop}
    (N : News h₀ L s.heap news) (hm : (D, W.listOf vs.toArray n) ∈ news) (h0 : 0 ≤ k) (h1 : k < vs.length) (hfit : k < 2 ^ 63) (h : Q (vs.getD k.toNat .none) s)
    (hs : subscripted slice false (.ref D) (.int k u) = operate [.ref D, .int k u] (getItem (.ref D) (.int k u)) := by with_unfolding_all rfl) :
    wpAny (model prog w) A (subscriptTail value slice (.ref D) (.int k u)) Q E s := by
  have hl := PySem.IsL.isList (n := n) (N _ hm).1
  refine tail_any hl.typeIs slot_list_getitem.lookup (wpAny_getItem_list hl h0 hfit (x := vs.getD k.toNat .none) ?_ h) hs
  rw [List.getElem?_toArray, List.getD_eq_getElem?_getD, List.getElem?_eq_getElem (by omega)]
  rfl
def KeyFn (w : World) (news : List (Addr × Obj)) (f : Addr) : Prop := ∀ (h₀ h : Heap) (L : Addr) (m : Str → Option Value), (hd.heap_39 w.params).In h₀ → Fr h₀ L h m → News h₀ L h news → FnAt f h
section
theorem lay_17 : True := by
  k_with "my:fnat" => ((fail_if_success (have z9 := off_LBi)); ((with_reducible rename KeyFn _ _ _ => zhKey); refine' zhKey _ _ _ _ (by k_asm) (by k_asm) (by k_asm)))
  k_with "FnAt" => ((fail_if_success (have z9 := off_LBi)); (walk_at "my:fnat"))
  k_with "callWith ref" => ((fail_if_success (have z9 := off_LBi)); (k_here; k_dflt (refine' callWith_F (by walk_at "my:fnat") ?_; k_whole)))
  k_with "exec While Compare cons nil" => ((fail_if_success (have z9 := off_LBi)); (refine stop_here ?_))
  k_with "KswEnd" => ((fail_if_success (have z9 := off_LBi)); (refine stop_here ?_))
  k_with "subscriptTail" => ((fail_if_success (have z9 := off_LBi)); (refine stop_here ?_))
  k_with "call ref" => ((fail_if_success (have z9 := off_LBi)); (refine stop_here ?_))
  k_with "call builtin:len" => ((fail_if_success (have z9 := off_LBi)); (k_here; k_dflt (refine' len_at (by k_asm) (by assumption) (by omega) ?_; k_whole); (try dsimp only)))
  trivial
def C_br_a (w : World) (p : Program) (loose : List Str) (mean : ExcName → Option Value) (mg : Str → Option Value) (mb : Str → Option Value) (news : List (Addr × Obj)) (l : Addr) (vs : List Value) (ks : List Int) (n : Nat) (x : Int) (t1 : Tok) (nd : Nat) (f : Addr) (lo : Int) (t2 : Tok) (dp : Nat) (un : Nat) (gd : Option (List Code)) (cn : Str) (cs : Scope) (a : Addr) (ccd : Value) (cl : List (Str × Addr)) (outer : List Env) (A₀ : Around) (base : Heap) (h₀ : Heap) (L : Addr) (m : Str → Option Value) (s : Shared) (Q : Value → Shared → Prop) (E : Value → Shared → Prop) (g' : Heap) (L' : Addr) (h' : Heap) : Prop :=
  ((l, W.listOf vs.toArray n) ∈ news) →
  (vs.length ≤ 1000) →
  (ks.length = vs.length) →
  (KeyFn w news f) →
  (∀ i : Nat, i < ks.length → Spec w p loose mean mg mb nd news f [vs.getD i .none] [] (isI (ks.getD i 0) news)) →
  (0 ≤ lo) →
  (lo ≤ vs.length) →
  (Falls (fun k => decide (k ≤ x)) ks) →
  RunD w p loose mean mg mb (nd + 1) news 74 (isI (cnt (fun k => decide (k ≤ x)) ks lo vs.length) news) (Str.ofString "bisect_right") fb10.1 fb10.2 (.ref 73) [(Str.ofString "a", .ref l), (Str.ofString "x", .int x t1), (Str.ofString "lo", .int lo t2), (Str.ofString "hi", .none), (Str.ofString "key", .ref f)] dp un gd cn cs a ccd cl outer A₀ base h₀ L m s Q E g' L' h'
def C_br_b (w : World) (p : Program) (loose : List Str) (mean : ExcName → Option Value) (mg : Str → Option Value) (mb : Str → Option Value) (news : List (Addr × Obj)) (l : Addr) (vs : List Value) (ks : List Int) (n : Nat) (x : Int) (t1 : Tok) (nd : Nat) (f : Addr) (lo : Int) (t2 : Tok) (dp : Nat) (un : Nat) (gd : Option (List Code)) (cn : Str) (cs : Scope) (a : Addr) (ccd : Value) (cl : List (Str × Addr)) (outer : List Env) (A₀ : Around) (base : Heap) (h₀ : Heap) (L : Addr) (m : Str → Option Value) (s : Shared) (Q : Value → Shared → Prop) (E : Value → Shared → Prop) (g' : Heap) (L' : Addr) (h' : Heap) : Prop :=
  ((l, W.listOf vs.toArray n) ∈ news) →
  (vs.length ≤ 1000) →
  (ks.length = vs.length) →
  (KeyFn w news f) →
  (∀ i : Nat, i < ks.length → Spec w p loose mean mg mb nd news f [vs.getD i .none] [] (isI (ks.getD i 0) news)) →
  (0 ≤ lo) →
  (lo ≤ vs.length) →
  (Falls (fun k => decide (k ≤ x)) ks) →
  RunD w p loose mean mg mb (nd + 1) news 74 (isI (cnt (fun k => decide (k ≤ x)) ks lo vs.length) news) (Str.ofString "bisect_right") fb10.1 fb10.2 (.ref 73) [(Str.ofString "a", .ref l), (Str.ofString "x", .int x t1), (Str.ofString "lo", .int lo t2), (Str.ofString "hi", .none), (Str.ofString "key", .ref f)] dp un gd cn cs a ccd cl outer A₀ base h₀ L m s Q E g' L' h'
def C_br_c (w : World) (p : Program) (loose : List Str) (mean : ExcName → Option Value) (mg : Str → Option Value) (mb : Str → Option Value) (news : List (Addr × Obj)) (l : Addr) (vs : List Value) (ks : List Int) (n : Nat) (x : Int) (t1 : Tok) (nd : Nat) (f : Addr) (lo : Int) (t2 : Tok) (hi : Int) (t3 : Tok) (dp : Nat) (un : Nat) (gd : Option (List Code)) (cn : Str) (cs : Scope) (a : Addr) (ccd : Value) (cl : List (Str × Addr)) (outer : List Env) (A₀ : Around) (base : Heap) (h₀ : Heap) (L : Addr) (m : Str → Option Value) (s : Shared) (Q : Value → Shared → Prop) (E : Value → Shared → Prop) (g' : Heap) (L' : Addr) (h' : Heap) : Prop :=
  ((l, W.listOf vs.toArray n) ∈ news) →
  (vs.length ≤ 1000) →
  (ks.length = vs.length) →
  (KeyFn w news f) →
  (∀ i : Nat, i < ks.length → Spec w p loose mean mg mb nd news f [vs.getD i .none] [] (isI (ks.getD i 0) news)) →
  (0 ≤ lo) →
  (lo ≤ hi) →
  (hi ≤ vs.length) →
  (Falls (fun k => decide (k ≤ x)) ks) →
  RunD w p loose mean mg mb (nd + 1) news 74 (isI (cnt (fun k => decide (k ≤ x)) ks lo hi) news) (Str.ofString "bisect_right") fb10.1 fb10.2 (.ref 73) [(Str.ofString "a", .ref l), (Str.ofString "x", .int x t1), (Str.ofString "lo", .int lo t2), (Str.ofString "hi", .int hi t3), (Str.ofString "key", .ref f)] dp un gd cn cs a ccd cl outer A₀ base h₀ L m s Q E g' L' h'
def C_br_d (w : World) (p : Program) (loose : List Str) (mean : ExcName → Option Value) (mg : Str → Option Value) (mb : Str → Option Value) (news : List (Addr × Obj)) (l : Addr) (vs : List Value) (ks : List Int) (n : Nat) (x : Int) (t1 : Tok) (dp : Nat) (un : Nat) (gd : Option (List Code)) (cn : Str) (cs : Scope) (a : Addr) (ccd : Value) (cl : List (Str × Addr)) (outer : List Env) (A₀ : Around) (base : Heap) (h₀ : Heap) (L : Addr) (m : Str → Option Value) (s : Shared) (Q : Value → Shared → Prop) (E : Value → Shared → Prop) (g' : Heap) (L' : Addr) (h' : Heap) : Prop :=
  ((l, W.listOf vs.toArray n) ∈ news) →
  (vs.length ≤ 1000) →
  (ks.length = vs.length) →
  (IntsAre vs ks) →
  (Falls (fun k => decide (k ≤ x)) ks) →
  RunD w p loose mean mg mb 2 news 74 (isI (cnt (fun k => decide (k ≤ x)) ks 0 vs.length) news) (Str.ofString "bisect_right") fb10.1 fb10.2 (.ref 73) [(Str.ofString "a", .ref l), (Str.ofString "x", .int x t1), (Str.ofString "lo", .int 0 284), (Str.ofString "hi", .none), (Str.ofString "key", .none)] dp un gd cn cs a ccd cl outer A₀ base h₀ L m s Q E g' L' h'
def C_br_e (w : World) (p : Program) (loose : List Str) (mean : ExcName → Option Value) (mg : Str → Option Value) (mb : Str → Option Value) (news : List (Addr × Obj)) (l : Addr) (vs : List Value) (ks : List Int) (n : Nat) (x : Int) (t1 : Tok) (nd : Nat) (f : Addr) (dp : Nat) (un : Nat) (gd : Option (List Code)) (cn : Str) (cs : Scope) (a : Addr) (ccd : Value) (cl : List (Str × Addr)) (outer : List Env) (A₀ : Around) (base : Heap) (h₀ : Heap) (L : Addr) (m : Str → Option Value) (s : Shared) (Q : Value → Shared → Prop) (E : Value → Shared → Prop) (g' : Heap) (L' : Addr) (h' : Heap) : Prop :=
  ((l, W.listOf vs.toArray n) ∈ news) →
  (vs.length ≤ 1000) →
  (ks.length = vs.length) →
  (KeyFn w news f) →
  (∀ i : Nat, i < ks.length → Spec w p loose mean mg mb nd news f [vs.getD i .none] [] (isI (ks.getD i 0) news)) →
  (Falls (fun k => decide (k ≤ x)) ks) →
  RunD w p loose mean mg mb (nd + 1) news 74 (isI (cnt (fun k => decide (k ≤ x)) ks 0 vs.length) news) (Str.ofString "bisect_right") fb10.1 fb10.2 (.ref 73) [(Str.ofString "a", .ref l), (Str.ofString "x", .int x t1), (Str.ofString "lo", .int 0 284), (Str.ofString "hi", .none), (Str.ofString "key", .ref f)] dp un gd cn cs a ccd cl outer A₀ base h₀ L m s Q E g' L' h'
def C_bl_a (w : World) (p : Program) (loose : List Str) (mean : ExcName → Option Value) (mg : Str → Option Value) (mb : Str → Option Value) (news : List (Addr × Obj)) (l : Addr) (vs : List Value) (ks : List Int) (n : Nat) (x : Int) (t1 : Tok) (nd : Nat) (f : Addr) (lo : Int) (t2 : Tok) (dp : Nat) (un : Nat) (gd : Option (List Code)) (cn : Str) (cs : Scope) (a : Addr) (ccd : Value) (cl : List (Str × Addr)) (outer : List Env) (A₀ : Around) (base : Heap) (h₀ : Heap) (L : Addr) (m : Str → Option Value) (s : Shared) (Q : Value → Shared → Prop) (E : Value → Shared → Prop) (g' : Heap) (L' : Addr) (h' : Heap) : Prop :=
  ((l, W.listOf vs.toArray n) ∈ news) →
  (vs.length ≤ 1000) →
  (ks.length = vs.length) →
  (KeyFn w news f) →
  (∀ i : Nat, i < ks.length → Spec w p loose mean mg mb nd news f [vs.getD i .none] [] (isI (ks.getD i 0) news)) →
  (0 ≤ lo) →
  (lo ≤ vs.length) →
  (Falls (fun k => decide (k < x)) ks) →
  RunD w p loose mean mg mb (nd + 1) news 92 (isI (cnt (fun k => decide (k < x)) ks lo vs.length) news) (Str.ofString "bisect_left") fb12.1 fb12.2 (.ref 91) [(Str.ofString "a", .ref l), (Str.ofString "x", .int x t1), (Str.ofString "lo", .int lo t2), (Str.ofString "hi", .none), (Str.ofString "key", .ref f)] dp un gd cn cs a ccd cl outer A₀ base h₀ L m s Q E g' L' h'
def C_bl_d (w : World) (p : Program) (loose : List Str) (mean : ExcName → Option Value) (mg : Str → Option Value) (mb : Str → Option Value) (news : List (Addr × Obj)) (l : Addr) (vs : List Value) (ks : List Int) (n : Nat) (x : Int) (t1 : Tok) (dp : Nat) (un : Nat) (gd : Option (List Code)) (cn : Str) (cs : Scope) (a : Addr) (ccd : Value) (cl : List (Str × Addr)) (outer : List Env) (A₀ : Around) (base : Heap) (h₀ : Heap) (L : Addr) (m : Str → Option Value) (s : Shared) (Q : Value → Shared → Prop) (E : Value → Shared → Prop) (g' : Heap) (L' : Addr) (h' : Heap) : Prop :=
  ((l, W.listOf vs.toArray n) ∈ news) →
  (vs.length ≤ 1000) →
  (ks.length = vs.length) →
  (IntsAre vs ks) →
  (Falls (fun k => decide (k < x)) ks) →
  RunD w p loose mean mg mb 2 news 92 (isI (cnt (fun k => decide (k < x)) ks 0 vs.length) news) (Str.ofString "bisect_left") fb12.1 fb12.2 (.ref 91) [(Str.ofString "a", .ref l), (Str.ofString "x", .int x t1), (Str.ofString "lo", .int 0 311), (Str.ofString "hi", .none), (Str.ofString "key", .none)] dp un gd cn cs a ccd cl outer A₀ base h₀ L m s Q E g' L' h'
def C_bl_e (w : World) (p : Program) (loose : List Str) (mean : ExcName → Option Value) (mg : Str → Option Value) (mb : Str → Option Value) (news : List (Addr × Obj)) (l : Addr) (vs : List Value) (ks : List Int) (n : Nat) (x : Int) (t1 : Tok) (nd : Nat) (f : Addr) (dp : Nat) (un : Nat) (gd : Option (List Code)) (cn : Str) (cs : Scope) (a : Addr) (ccd : Value) (cl : List (Str × Addr)) (outer : List Env) (A₀ : Around) (base : Heap) (h₀ : Heap) (L : Addr) (m : Str → Option Value) (s : Shared) (Q : Value → Shared → Prop) (E : Value → Shared → Prop) (g' : Heap) (L' : Addr) (h' : Heap) : Prop :=
  ((l, W.listOf vs.toArray n) ∈ news) →
  (vs.length ≤ 1000) →
  (ks.length = vs.length) →
  (KeyFn w news f) →
  (∀ i : Nat, i < ks.length → Spec w p loose mean mg mb nd news f [vs.getD i .none] [] (isI (ks.getD i 0) news)) →
  (Falls (fun k => decide (k < x)) ks) →
  RunD w p loose mean mg mb (nd + 1) news 92 (isI (cnt (fun k => decide (k < x)) ks 0 vs.length) news) (Str.ofString "bisect_left") fb12.1 fb12.2 (.ref 91) [(Str.ofString "a", .ref l), (Str.ofString "x", .int x t1), (Str.ofString "lo", .int 0 311), (Str.ofString "hi", .none), (Str.ofString "key", .ref f)] dp un gd cn cs a ccd cl outer A₀ base h₀ L m s Q E g' L' h'
abbrev V_LBi := (World) × (Program) × (List Str) × (ExcName → Option Value) × (Str → Option Value) × (Str → Option Value) × (List (Addr × Obj)) × (Addr) × (List Value) × (List Int) × (Nat) × (Int) × (Tok) × (Nat) × (Addr) × (Int) × (Tok) × (Nat) × (Nat) × (Option (List Code)) × (Str) × (Scope) × (Addr) × (Value) × (List (Str × Addr)) × (List Env) × (Around) × (Heap) × (Heap) × (Addr) × (Str → Option Value) × (Shared) × (Value → Shared → Prop) × (Value → Shared → Prop) × (Heap) × (Addr) × (Heap) × (Int) × (Tok)
noncomputable def G_LBi.w (v : V_LBi) : World := v.1
noncomputable def G_LBi.p (v : V_LBi) : Program := v.2.1
noncomputable def G_LBi.loose (v : V_LBi) : List Str := v.2.2.1
noncomputable def G_LBi.mean (v : V_LBi) : ExcName → Option Value := v.2.2.2.1
noncomputable def G_LBi.mg (v : V_LBi) : Str → Option Value := v.2.2.2.2.1
noncomputable def G_LBi.mb (v : V_LBi) : Str → Option Value := v.2.2.2.2.2.1
noncomputable def G_LBi.news (v : V_LBi) : List (Addr × Obj) := v.2.2.2.2.2.2.1
noncomputable def G_LBi.l (v : V_LBi) : Addr := v.2.2.2.2.2.2.2.1
noncomputable def G_LBi.vs (v : V_LBi) : List Value := v.2.2.2.2.2.2.2.2.1
noncomputable def G_LBi.ks (v : V_LBi) : List Int := v.2.2.2.2.2.2.2.2.2.1
noncomputable def G_LBi.n (v : V_LBi) : Nat := v.2.2.2.2.2.2.2.2.2.2.1
noncomputable def G_LBi.x (v : V_LBi) : Int := v.2.2.2.2.2.2.2.2.2.2.2.1
noncomputable def G_LBi.t1 (v : V_LBi) : Tok := v.2.2.2.2.2.2.2.2.2.2.2.2.1
noncomputable def G_LBi.nd (v : V_LBi) : Nat := v.2.2.2.2.2.2.2.2.2.2.2.2.2.1
noncomputable def G_LBi.f (v : V_LBi) : Addr := v.2.2.2.2.2.2.2.2.2.2.2.2.2.2.1
noncomputable def G_LBi.lo (v : V_LBi) : Int := v.2.2.2.2.2.2.2.2.2.2.2.2.2.2.2.1
noncomputable def G_LBi.t2 (v : V_LBi) : Tok := v.2.2.2.2.2.2.2.2.2.2.2.2.2.2.2.2.1
noncomputable def G_LBi.dp (v : V_LBi) : Nat := v.2.2.2.2.2.2.2.2.2.2.2.2.2.2.2.2.2.1
noncomputable def G_LBi.un (v : V_LBi) : Nat := v.2.2.2.2.2.2.2.2.2.2.2.2.2.2.2.2.2.2.1
noncomputable def G_LBi.gd (v : V_LBi) : Option (List Code) := v.2.2.2.2.2.2.2.2.2.2.2.2.2.2.2.2.2.2.2.1
noncomputable def G_LBi.cn (v : V_LBi) : Str := v.2.2.2.2.2.2.2.2.2.2.2.2.2.2.2.2.2.2.2.2.1
noncomputable def G_LBi.cs (v : V_LBi) : Scope := v.2.2.2.2.2.2.2.2.2.2.2.2.2.2.2.2.2.2.2.2.2.1
noncomputable def G_LBi.a (v : V_LBi) : Addr := v.2.2.2.2.2.2.2.2.2.2.2.2.2.2.2.2.2.2.2.2.2.2.1
noncomputable def G_LBi.ccd (v : V_LBi) : Value := v.2.2.2.2.2.2.2.2.2.2.2.2.2.2.2.2.2.2.2.2.2.2.2.1
noncomputable def G_LBi.cl (v : V_LBi) : List (Str × Addr) := v.2.2.2.2.2.2.2.2.2.2.2.2.2.2.2.2.2.2.2.2.2.2.2.2.1
noncomputable def G_LBi.outer (v : V_LBi) : List Env := v.2.2.2.2.2.2.2.2.2.2.2.2.2.2.2.2.2.2.2.2.2.2.2.2.2.1
noncomputable def G_LBi.A₀ (v : V_LBi) : Around := v.2.2.2.2.2.2.2.2.2.2.2.2.2.2.2.2.2.2.2.2.2.2.2.2.2.2.1
noncomputable def G_LBi.base (v : V_LBi) : Heap := v.2.2.2.2.2.2.2.2.2.2.2.2.2.2.2.2.2.2.2.2.2.2.2.2.2.2.2.1
noncomputable def G_LBi.h₀ (v : V_LBi) : Heap := v.2.2.2.2.2.2.2.2.2.2.2.2.2.2.2.2.2.2.2.2.2.2.2.2.2.2.2.2.1
noncomputable def G_LBi.L (v : V_LBi) : Addr := v.2.2.2.2.2.2.2.2.2.2.2.2.2.2.2.2.2.2.2.2.2.2.2.2.2.2.2.2.2.1
noncomputable def G_LBi.m (v : V_LBi) : Str → Option Value := v.2.2.2.2.2.2.2.2.2.2.2.2.2.2.2.2.2.2.2.2.2.2.2.2.2.2.2.2.2.2.1
noncomputable def G_LBi.s (v : V_LBi) : Shared := v.2.2.2.2.2.2.2.2.2.2.2.2.2.2.2.2.2.2.2.2.2.2.2.2.2.2.2.2.2.2.2.1
noncomputable def G_LBi.Q (v : V_LBi) : Value → Shared → Prop := v.2.2.2.2.2.2.2.2.2.2.2.2.2.2.2.2.2.2.2.2.2.2.2.2.2.2.2.2.2.2.2.2.1
noncomputable def G_LBi.E (v : V_LBi) : Value → Shared → Prop := v.2.2.2.2.2.2.2.2.2.2.2.2.2.2.2.2.2.2.2.2.2.2.2.2.2.2.2.2.2.2.2.2.2.1
noncomputable def G_LBi.g' (v : V_LBi) : Heap := v.2.2.2.2.2.2.2.2.2.2.2.2.2.2.2.2.2.2.2.2.2.2.2.2.2.2.2.2.2.2.2.2.2.2.1
noncomputable def G_LBi.L' (v : V_LBi) : Addr := v.2.2.2.2.2.2.2.2.2.2.2.2.2.2.2.2.2.2.2.2.2.2.2.2.2.2.2.2.2.2.2.2.2.2.2.1
noncomputable def G_LBi.h' (v : V_LBi) : Heap := v.2.2.2.2.2.2.2.2.2.2.2.2.2.2.2.2.2.2.2.2.2.2.2.2.2.2.2.2.2.2.2.2.2.2.2.2.1
noncomputable def G_LBi.hi (v : V_LBi) : Int := v.2.2.2.2.2.2.2.2.2.2.2.2.2.2.2.2.2.2.2.2.2.2.2.2.2.2.2.2.2.2.2.2.2.2.2.2.2.1
noncomputable def G_LBi.t3 (v : V_LBi) : Tok := v.2.2.2.2.2.2.2.2.2.2.2.2.2.2.2.2.2.2.2.2.2.2.2.2.2.2.2.2.2.2.2.2.2.2.2.2.2.2
def D_br_a (v : V_LBi) : Prop := C_br_a (G_LBi.w v) (G_LBi.p v) (G_LBi.loose v) (G_LBi.mean v) (G_LBi.mg v) (G_LBi.mb v) (G_LBi.news v) (G_LBi.l v) (G_LBi.vs v) (G_LBi.ks v) (G_LBi.n v) (G_LBi.x v) (G_LBi.t1 v) (G_LBi.nd v) (G_LBi.f v) (G_LBi.lo v) (G_LBi.t2 v) (G_LBi.dp v) (G_LBi.un v) (G_LBi.gd v) (G_LBi.cn v) (G_LBi.cs v) (G_LBi.a v) (G_LBi.ccd v) (G_LBi.cl v) (G_LBi.outer v) (G_LBi.A₀ v) (G_LBi.base v) (G_LBi.h₀ v) (G_LBi.L v) (G_LBi.m v) (G_LBi.s v) (G_LBi.Q v) (G_LBi.E v) (G_LBi.g' v) (G_LBi.L' v) (G_LBi.h' v)
def D_br_b (v : V_LBi) : Prop := C_br_b (G_LBi.w v) (G_LBi.p v) (G_LBi.loose v) (G_LBi.mean v) (G_LBi.mg v) (G_LBi.mb v) (G_LBi.news v) (G_LBi.l v) (G_LBi.vs v) (G_LBi.ks v) (G_LBi.n v) (G_LBi.x v) (G_LBi.t1 v) (G_LBi.nd v) (G_LBi.f v) (G_LBi.lo v) (G_LBi.t2 v) (G_LBi.dp v) (G_LBi.un v) (G_LBi.gd v) (G_LBi.cn v) (G_LBi.cs v) (G_LBi.a v) (G_LBi.ccd v) (G_LBi.cl v) (G_LBi.outer v) (G_LBi.A₀ v) (G_LBi.base v) (G_LBi.h₀ v) (G_LBi.L v) (G_LBi.m v) (G_LBi.s v) (G_LBi.Q v) (G_LBi.E v) (G_LBi.g' v) (G_LBi.L' v) (G_LBi.h' v)
def D_br_c (v : V_LBi) : Prop := C_br_c (G_LBi.w v) (G_LBi.p v) (G_LBi.loose v) (G_LBi.mean v) (G_LBi.mg v) (G_LBi.mb v) (G_LBi.news v) (G_LBi.l v) (G_LBi.vs v) (G_LBi.ks v) (G_LBi.n v) (G_LBi.x v) (G_LBi.t1 v) (G_LBi.nd v) (G_LBi.f v) (G_LBi.lo v) (G_LBi.t2 v) (G_LBi.hi v) (G_LBi.t3 v) (G_LBi.dp v) (G_LBi.un v) (G_LBi.gd v) (G_LBi.cn v) (G_LBi.cs v) (G_LBi.a v) (G_LBi.ccd v) (G_LBi.cl v) (G_LBi.outer v) (G_LBi.A₀ v) (G_LBi.base v) (G_LBi.h₀ v) (G_LBi.L v) (G_LBi.m v) (G_LBi.s v) (G_LBi.Q v) (G_LBi.E v) (G_LBi.g' v) (G_LBi.L' v) (G_LBi.h' v)
def D_br_d (v : V_LBi) : Prop := C_br_d (G_LBi.w v) (G_LBi.p v) (G_LBi.loose v) (G_LBi.mean v) (G_LBi.mg v) (G_LBi.mb v) (G_LBi.news v) (G_LBi.l v) (G_LBi.vs v) (G_LBi.ks v) (G_LBi.n v) (G_LBi.x v) (G_LBi.t1 v) (G_LBi.dp v) (G_LBi.un v) (G_LBi.gd v) (G_LBi.cn v) (G_LBi.cs v) (G_LBi.a v) (G_LBi.ccd v) (G_LBi.cl v) (G_LBi.outer v) (G_LBi.A₀ v) (G_LBi.base v) (G_LBi.h₀ v) (G_LBi.L v) (G_LBi.m v) (G_LBi.s v) (G_LBi.Q v) (G_LBi.E v) (G_LBi.g' v) (G_LBi.L' v) (G_LBi.h' v)
def D_br_e (v : V_LBi) : Prop := C_br_e (G_LBi.w v) (G_LBi.p v) (G_LBi.loose v) (G_LBi.mean v) (G_LBi.mg v) (G_LBi.mb v) (G_LBi.news v) (G_LBi.l v) (G_LBi.vs v) (G_LBi.ks v) (G_LBi.n v) (G_LBi.x v) (G_LBi.t1 v) (G_LBi.nd v) (G_LBi.f v) (G_LBi.dp v) (G_LBi.un v) (G_LBi.gd v) (G_LBi.cn v) (G_LBi.cs v) (G_LBi.a v) (G_LBi.ccd v) (G_LBi.cl v) (G_LBi.outer v) (G_LBi.A₀ v) (G_LBi.base v) (G_LBi.h₀ v) (G_LBi.L v) (G_LBi.m v) (G_LBi.s v) (G_LBi.Q v) (G_LBi.E v) (G_LBi.g' v) (G_LBi.L' v) (G_LBi.h' v)
def D_bl_a (v : V_LBi) : Prop := C_bl_a (G_LBi.w v) (G_LBi.p v) (G_LBi.loose v) (G_LBi.mean v) (G_LBi.mg v) (G_LBi.mb v) (G_LBi.news v) (G_LBi.l v) (G_LBi.vs v) (G_LBi.ks v) (G_LBi.n v) (G_LBi.x v) (G_LBi.t1 v) (G_LBi.nd v) (G_LBi.f v) (G_LBi.lo v) (G_LBi.t2 v) (G_LBi.dp v) (G_LBi.un v) (G_LBi.gd v) (G_LBi.cn v) (G_LBi.cs v) (G_LBi.a v) (G_LBi.ccd v) (G_LBi.cl v) (G_LBi.outer v) (G_LBi.A₀ v) (G_LBi.base v) (G_LBi.h₀ v) (G_LBi.L v) (G_LBi.m v) (G_LBi.s v) (G_LBi.Q v) (G_LBi.E v) (G_LBi.g' v) (G_LBi.L' v) (G_LBi.h' v)
def D_bl_d (v : V_LBi) : Prop := C_bl_d (G_LBi.w v) (G_LBi.p v) (G_LBi.loose v) (G_LBi.mean v) (G_LBi.mg v) (G_LBi.mb v) (G_LBi.news v) (G_LBi.l v) (G_LBi.vs v) (G_LBi.ks v) (G_LBi.n v) (G_LBi.x v) (G_LBi.t1 v) (G_LBi.dp v) (G_LBi.un v) (G_LBi.gd v) (G_LBi.cn v) (G_LBi.cs v) (G_LBi.a v) (G_LBi.ccd v) (G_LBi.cl v) (G_LBi.outer v) (G_LBi.A₀ v) (G_LBi.base v) (G_LBi.h₀ v) (G_LBi.L v) (G_LBi.m v) (G_LBi.s v) (G_LBi.Q v) (G_LBi.E v) (G_LBi.g' v) (G_LBi.L' v) (G_LBi.h' v)
def D_bl_e (v : V_LBi) : Prop := C_bl_e (G_LBi.w v) (G_LBi.p v) (G_LBi.loose v) (G_LBi.mean v) (G_LBi.mg v) (G_LBi.mb v) (G_LBi.news v) (G_LBi.l v) (G_LBi.vs v) (G_LBi.ks v) (G_LBi.n v) (G_LBi.x v) (G_LBi.t1 v) (G_LBi.nd v) (G_LBi.f v) (G_LBi.dp v) (G_LBi.un v) (G_LBi.gd v) (G_LBi.cn v) (G_LBi.cs v) (G_LBi.a v) (G_LBi.ccd v) (G_LBi.cl v) (G_LBi.outer v) (G_LBi.A₀ v) (G_LBi.base v) (G_LBi.h₀ v) (G_LBi.L v) (G_LBi.m v) (G_LBi.s v) (G_LBi.Q v) (G_LBi.E v) (G_LBi.g' v) (G_LBi.L' v) (G_LBi.h' v)
def VP_LBi (v : V_LBi) : Prop := D_br_a v ∧ D_br_b v ∧ D_br_c v ∧ D_br_d v ∧ D_br_e v ∧ D_bl_a v ∧ D_bl_d v ∧ D_bl_e v
theorem ne_LBi : Nonempty V_LBi := ⟨((⟨fun _ _ => 0, { strHash := fun _ => 0, shareClass := fun _ => 0, mergeTok := id, idOf := fun _ => 0, idOfShared := fun _ _ => 0, followText := fun _ => false, idOfImm := fun _ => 0 }⟩ : World), (default : Program), ([] : List Str), (fun _  => none), (fun _  => none), (fun _  => none), ([] : List (Addr × Obj)), (0 : Addr), ([] : List Value), ([] : List Int), (0 : Nat), (0 : Int), (0 : Tok), (0 : Nat), (0 : Addr), (0 : Int), (0 : Tok), (0 : Nat), (0 : Nat), (none : Option (List Code)), (Str.empty : Str), (default : Scope), (0 : Addr), (.none : Value), ([] : List (Str × Addr)), ([] : List Env), ({} : Around), ({} : Heap), ({} : Heap), (0 : Addr), (fun _  => none), ({} : Shared), (fun _ _  => True), (fun _ _  => True), ({} : Heap), (0 : Addr), ({} : Heap), (0 : Int), (0 : Tok))⟩
noncomputable def k_LBi : {v : V_LBi // VP_LBi v → ∀ x, VP_LBi x} := Classical.choice (drink ne_LBi VP_LBi)
noncomputable def K_LBi.w : World := G_LBi.w k_LBi.1
noncomputable def K_LBi.p : Program := G_LBi.p k_LBi.1
noncomputable def K_LBi.loose : List Str := G_LBi.loose k_LBi.1
noncomputable def K_LBi.mean : ExcName → Option Value := G_LBi.mean k_LBi.1
noncomputable def K_LBi.mg : Str → Option Value := G_LBi.mg k_LBi.1
noncomputable def K_LBi.mb : Str → Option Value := G_LBi.mb k_LBi.1
noncomputable def K_LBi.news : List (Addr × Obj) := G_LBi.news k_LBi.1
noncomputable def K_LBi.l : Addr := G_LBi.l k_LBi.1
noncomputable def K_LBi.vs : List Value := G_LBi.vs k_LBi.1
noncomputable def K_LBi.ks : List Int := G_LBi.ks k_LBi.1
noncomputable def K_LBi.n : Nat := G_LBi.n k_LBi.1
noncomputable def K_LBi.x : Int := G_LBi.x k_LBi.1
noncomputable def K_LBi.t1 : Tok := G_LBi.t1 k_LBi.1
noncomputable def K_LBi.nd : Nat := G_LBi.nd k_LBi.1
noncomputable def K_LBi.f : Addr := G_LBi.f k_LBi.1
noncomputable def K_LBi.lo : Int := G_LBi.lo k_LBi.1
noncomputable def K_LBi.t2 : Tok := G_LBi.t2 k_LBi.1
noncomputable def K_LBi.dp : Nat := G_LBi.dp k_LBi.1
noncomputable def K_LBi.un : Nat := G_LBi.un k_LBi.1
noncomputable def K_LBi.gd : Option (List Code) := G_LBi.gd k_LBi.1
noncomputable def K_LBi.cn : Str := G_LBi.cn k_LBi.1
noncomputable def K_LBi.cs : Scope := G_LBi.cs k_LBi.1
noncomputable def K_LBi.a : Addr := G_LBi.a k_LBi.1
noncomputable def K_LBi.ccd : Value := G_LBi.ccd k_LBi.1
noncomputable def K_LBi.cl : List (Str × Addr) := G_LBi.cl k_LBi.1
noncomputable def K_LBi.outer : List Env := G_LBi.outer k_LBi.1
noncomputable def K_LBi.A₀ : Around := G_LBi.A₀ k_LBi.1
noncomputable def K_LBi.base : Heap := G_LBi.base k_LBi.1
noncomputable def K_LBi.h₀ : Heap := G_LBi.h₀ k_LBi.1
noncomputable def K_LBi.L : Addr := G_LBi.L k_LBi.1
noncomputable def K_LBi.m : Str → Option Value := G_LBi.m k_LBi.1
noncomputable def K_LBi.s : Shared := G_LBi.s k_LBi.1
noncomputable def K_LBi.Q : Value → Shared → Prop := G_LBi.Q k_LBi.1
noncomputable def K_LBi.E : Value → Shared → Prop := G_LBi.E k_LBi.1
noncomputable def K_LBi.g' : Heap := G_LBi.g' k_LBi.1
noncomputable def K_LBi.L' : Addr := G_LBi.L' k_LBi.1
noncomputable def K_LBi.h' : Heap := G_LBi.h' k_LBi.1
noncomputable def K_LBi.hi : Int := G_LBi.hi k_LBi.1
noncomputable def K_LBi.t3 : Tok := G_LBi.t3 k_LBi.1
section
open K_LBi
theorem c_br_a : C_br_a w p loose mean mg mb news l vs ks n x t1 nd f lo t2 dp un gd cn cs a ccd cl outer A₀ base h₀ L m s Q E g' L' h' := by
  unfold C_br_a RunD
  dsimp only [fb10]
  k_fill
  intro hm hfit hkl hfn hkey h0 hlh hF B F X N T hk hdp hun hret FG' F' N' B' X' T'
  (try dsimp only)
  (try dsimp only [List.reverse, List.reverseAux, List.lookup] at F')
  (try k_lift B')
  (try k_fold)
  k_steps
  (try (exfalso; omega))
  refine Stop.go ?_
  rename Fr _ _ _ _ => FC
  rename News _ _ _ _ => NC
  refine' ksw_while (σ := Int × Tok × Int × Tok) (fun _ => news) (fun c => [(Str.ofString "lo", .int c.1 c.2.1), (Str.ofString "hi", .int c.2.2.1 c.2.2.2)])
    (fun _ => True) [Str.ofString "mid"] (fun c => BW (fun k => decide (k ≤ x)) ks lo vs.length c.1 c.2.2.1) (fun c => (c.2.2.1 - c.1).toNat) (_, _, _, _) (by exact FC) (by exact NC) trivial ?hk ?hp ?_
  (case hk => kst_all)
  (case hp => exact BW.start (by omega))
  rintro ⟨lo8, tl, hi8, th⟩ u8 hD tkD _ hO FD ND
  dsimp only [kstB] at hO FD ND
  k_steps
  · refine Stop.go ?_
    rename (lo8 < hi8) => hlt
    have M := mid_w hlt
    have h1 := hO.a
    have h2 := hO.c
    have h3 := M.a
    have h4 := M.b
    refine' sub_at (by k_asm) hm ?q0 ?q1 ?q2 ?_
    (case q0 => omega)
    (case q1 => omega)
    (case q2 => omega)
    k_steps
    refine Stop.go ?_
    k_dflt (refine' Spec.useI (hkey _ ?q3) ?k1 ?k2 ?k3 ?k4 ?k5 ?kK ?kd ?ku ?_)
    (case q3 => omega)
    walk_at "my:useI"
    k_steps
    · refine Stop.go ?_
      rename (x < List.getD _ _ _) => hc
      refine' ksw_end (_, _, _, _) (by k_asm) (by k_asm) ?hn trivial ?hk ?hr ?hp ?hm
      walk_at "my:wend"
      (case hp => exact hO.down M (by omega) (by omega) hF (decide_eq_false (Int.not_le.mpr hc)))
      (case hm => (dsimp only); omega)
    · refine Stop.go ?_
      rename (¬ (x < List.getD _ _ _)) => hc
      refine' ksw_end (_, _, _, _) (by k_asm) (by k_asm) ?hn trivial ?hk ?hr ?hp ?hm
      walk_at "my:wend"
      (case hp => exact hO.up M (by omega) (by omega) hF (decide_eq_true (Int.not_lt.mp hc)))
      (case hm => (dsimp only); omega)
  · rename (¬ lo8 < hi8) => hnlt
    refine' ret_isI ?e0 ?e1 ?e2 ?e3 ?e4
    (case e0 => assumption)
    (case e2 => k_asm)
    (case e3 => k_asm)
    (case e1 => exact hO.end_ (by omega) (by omega) hnlt)
    (case e4 => exact fun _ h => h)
end
section
open K_LBi
theorem c_br_b : C_br_b w p loose mean mg mb news l vs ks n x t1 nd f lo t2 dp un gd cn cs a ccd cl outer A₀ base h₀ L m s Q E g' L' h' := by
  unfold C_br_b RunD
  dsimp only [fb10]
  k_fill
  intro hm hfit hkl hfn hkey h0 hlh hF B F X N T hk hdp hun hret FG' F' N' B' X' T'
  (try dsimp only)
  (try dsimp only [List.reverse, List.reverseAux, List.lookup] at F')
  (try k_lift B')
  (try k_fold)
  k_steps
  (try (exfalso; omega))
  refine Stop.go ?_
  rename Fr _ _ _ _ => FC
  rename News _ _ _ _ => NC
  refine' ksw_while (σ := Int × Tok × Int × Tok) (fun _ => news) (fun c => [(Str.ofString "lo", .int c.1 c.2.1), (Str.ofString "hi", .int c.2.2.1 c.2.2.2)])
    (fun _ => True) [Str.ofString "mid"] (fun c => BW (fun k => decide (k ≤ x)) ks lo vs.length c.1 c.2.2.1) (fun c => (c.2.2.1 - c.1).toNat) (_, _, _, _) (by exact FC) (by exact NC) trivial ?hk ?hp ?_
  (case hk => kst_all)
  (case hp => exact BW.start (by omega))
  rintro ⟨lo8, tl, hi8, th⟩ u8 hD tkD _ hO FD ND
  dsimp only [kstB] at hO FD ND
  k_steps
  · refine Stop.go ?_
    rename (lo8 < hi8) => hlt
    have M := mid_w hlt
    have h1 := hO.a
    have h2 := hO.c
    have h3 := M.a
    have h4 := M.b
    refine' sub_at (by k_asm) hm ?q0 ?q1 ?q2 ?_
    (case q0 => omega)
    (case q1 => omega)
    (case q2 => omega)
    k_steps
    refine Stop.go ?_
    k_dflt (refine' Spec.useI (hkey _ ?q3) ?k1 ?k2 ?k3 ?k4 ?k5 ?kK ?kd ?ku ?_)
    (case q3 => omega)
    walk_at "my:useI"
    k_steps
    · refine Stop.go ?_
      rename (x < List.getD _ _ _) => hc
      refine' ksw_end (_, _, _, _) (by k_asm) (by k_asm) ?hn trivial ?hk ?hr ?hp ?hm
      walk_at "my:wend"
      (case hp => exact hO.down M (by omega) (by omega) hF (decide_eq_false (Int.not_le.mpr hc)))
      (case hm => (dsimp only); omega)
    · refine Stop.go ?_
      rename (¬ (x < List.getD _ _ _)) => hc
      refine' ksw_end (_, _, _, _) (by k_asm) (by k_asm) ?hn trivial ?hk ?hr ?hp ?hm
      walk_at "my:wend"
      (case hp => exact hO.up M (by omega) (by omega) hF (decide_eq_true (Int.not_lt.mp hc)))
      (case hm => (dsimp only); omega)
  · rename (¬ lo8 < hi8) => hnlt
    refine' ret_isI ?e0 ?e1 ?e2 ?e3 ?e4
    (case e0 => assumption)
    (case e2 => k_asm)
    (case e3 => k_asm)
    (case e1 => exact hO.end_ (by omega) (by omega) hnlt)
    (case e4 => exact fun _ h => h)
end
section
open K_LBi
theorem c_br_c : C_br_c w p loose mean mg mb news l vs ks n x t1 nd f lo t2 hi t3 dp un gd cn cs a ccd cl outer A₀ base h₀ L m s Q E g' L' h' := by
  unfold C_br_c RunD
  dsimp only [fb10]
  k_fill
  intro hm hfit hkl hfn hkey h0 hlh hhl hF B F X N T hk hdp hun hret FG' F' N' B' X' T'
  (try dsimp only)
  (try dsimp only [List.reverse, List.reverseAux, List.lookup] at F')
  (try k_lift B')
  (try k_fold)
  k_steps
  (try (exfalso; omega))
  refine Stop.go ?_
  rename Fr _ _ _ _ => FC
  rename News _ _ _ _ => NC
  refine' ksw_while (σ := Int × Tok × Int × Tok) (fun _ => news) (fun c => [(Str.ofString "lo", .int c.1 c.2.1), (Str.ofString "hi", .int c.2.2.1 c.2.2.2)])
    (fun _ => True) [Str.ofString "mid"] (fun c => BW (fun k => decide (k ≤ x)) ks lo hi c.1 c.2.2.1) (fun c => (c.2.2.1 - c.1).toNat) (_, _, _, _) (by exact FC) (by exact NC) trivial ?hk ?hp ?_
  (case hk => kst_all)
  (case hp => exact BW.start (by omega))
  rintro ⟨lo8, tl, hi8, th⟩ u8 hD tkD _ hO FD ND
  dsimp only [kstB] at hO FD ND
  k_steps
  · refine Stop.go ?_
    rename (lo8 < hi8) => hlt
    have M := mid_w hlt
    have h1 := hO.a
    have h2 := hO.c
    have h3 := M.a
    have h4 := M.b
    refine' sub_at (by k_asm) hm ?q0 ?q1 ?q2 ?_
    (case q0 => omega)
    (case q1 => omega)
    (case q2 => omega)
    k_steps
    refine Stop.go ?_
    k_dflt (refine' Spec.useI (hkey _ ?q3) ?k1 ?k2 ?k3 ?k4 ?k5 ?kK ?kd ?ku ?_)
    (case q3 => omega)
    walk_at "my:useI"
    k_steps
    · refine Stop.go ?_
      rename (x < List.getD _ _ _) => hc
      refine' ksw_end (_, _, _, _) (by k_asm) (by k_asm) ?hn trivial ?hk ?hr ?hp ?hm
      walk_at "my:wend"
      (case hp => exact hO.down M (by omega) (by omega) hF (decide_eq_false (Int.not_le.mpr hc)))
      (case hm => (dsimp only); omega)
    · refine Stop.go ?_
      rename (¬ (x < List.getD _ _ _)) => hc
      refine' ksw_end (_, _, _, _) (by k_asm) (by k_asm) ?hn trivial ?hk ?hr ?hp ?hm
      walk_at "my:wend"
      (case hp => exact hO.up M (by omega) (by omega) hF (decide_eq_true (Int.not_lt.mp hc)))
      (case hm => (dsimp only); omega)
  · rename (¬ lo8 < hi8) => hnlt
    refine' ret_isI ?e0 ?e1 ?e2 ?e3 ?e4
    (case e0 => assumption)
    (case e2 => k_asm)
    (case e3 => k_asm)
    (case e1 => exact hO.end_ (by omega) (by omega) hnlt)
    (case e4 => exact fun _ h => h)
end
section
open K_LBi
theorem c_br_d : C_br_d w p loose mean mg mb news l vs ks n x t1 dp un gd cn cs a ccd cl outer A₀ base h₀ L m s Q E g' L' h' := by
  unfold C_br_d RunD
  dsimp only [fb10]
  k_fill
  intro hm hfit hkl hks hF B F X N T hk hdp hun hret FG' F' N' B' X' T'
  (try dsimp only)
  (try dsimp only [List.reverse, List.reverseAux, List.lookup] at F')
  (try k_lift B')
  (try k_fold)
  k_steps
  refine Stop.go ?_
  rename Fr _ _ _ _ => FC
  rename News _ _ _ _ => NC
  refine' ksw_while (σ := Int × Tok × Int × Tok) (fun _ => news) (fun c => [(Str.ofString "lo", .int c.1 c.2.1), (Str.ofString "hi", .int c.2.2.1 c.2.2.2)])
    (fun _ => True) [Str.ofString "mid"] (fun c => BW (fun k => decide (k ≤ x)) ks 0 vs.length c.1 c.2.2.1) (fun c => (c.2.2.1 - c.1).toNat) (_, _, _, _) (by exact FC) (by exact NC) trivial ?hk ?hp ?_
  (case hk => kst_all)
  (case hp => exact BW.start (by omega))
  rintro ⟨lo8, tl, hi8, th⟩ u8 hD tkD _ hO FD ND
  dsimp only [kstB] at hO FD ND
  k_steps
  · refine Stop.go ?_
    rename (lo8 < hi8) => hlt
    have M := mid_w hlt
    have h1 := hO.a
    have h2 := hO.c
    have h3 := M.a
    have h4 := M.b
    refine' ksa_sub (by k_asm) hm hks ?q0 ?q1 ?q2 ?_
    (case q0 => omega)
    (case q1 => omega)
    (case q2 => omega)
    intro _
    k_steps
    · refine Stop.go ?_
      rename (x < List.getD _ _ _) => hc
      refine' ksw_end (_, _, _, _) (by k_asm) (by k_asm) ?hn trivial ?hk ?hr ?hp ?hm
      walk_at "my:wend"
      (case hp => exact hO.down M (by omega) (by omega) hF (decide_eq_false (Int.not_le.mpr hc)))
      (case hm => (dsimp only); omega)
    · refine Stop.go ?_
      rename (¬ (x < List.getD _ _ _)) => hc
      refine' ksw_end (_, _, _, _) (by k_asm) (by k_asm) ?hn trivial ?hk ?hr ?hp ?hm
      walk_at "my:wend"
      (case hp => exact hO.up M (by omega) (by omega) hF (decide_eq_true (Int.not_lt.mp hc)))
      (case hm => (dsimp only); omega)
  · rename (¬ lo8 < hi8) => hnlt
    refine' ret_isI ?e0 ?e1 ?e2 ?e3 ?e4
    (case e0 => assumption)
    (case e2 => k_asm)
    (case e3 => k_asm)
    (case e1 => exact hO.end_ (by omega) (by omega) hnlt)
    (case e4 => exact fun _ h => h)
end
section
open K_LBi
theorem c_br_e : C_br_e w p loose mean mg mb news l vs ks n x t1 nd f dp un gd cn cs a ccd cl outer A₀ base h₀ L m s Q E g' L' h' := by
  unfold C_br_e RunD
  dsimp only [fb10]
  k_fill
  intro hm hfit hkl hfn hkey hF B F X N T hk hdp hun hret FG' F' N' B' X' T'
  (try dsimp only)
  (try dsimp only [List.reverse, List.reverseAux, List.lookup] at F')
  (try k_lift B')
  (try k_fold)
  k_steps
  refine Stop.go ?_
  rename Fr _ _ _ _ => FC
  rename News _ _ _ _ => NC
  refine' ksw_while (σ := Int × Tok × Int × Tok) (fun _ => news) (fun c => [(Str.ofString "lo", .int c.1 c.2.1), (Str.ofString "hi", .int c.2.2.1 c.2.2.2)])
    (fun _ => True) [Str.ofString "mid"] (fun c => BW (fun k => decide (k ≤ x)) ks 0 vs.length c.1 c.2.2.1) (fun c => (c.2.2.1 - c.1).toNat) (_, _, _, _) (by exact FC) (by exact NC) trivial ?hk ?hp ?_
  (case hk => kst_all)
  (case hp => exact BW.start (by omega))
  rintro ⟨lo8, tl, hi8, th⟩ u8 hD tkD _ hO FD ND
  dsimp only [kstB] at hO FD ND
  k_steps
  · refine Stop.go ?_
    rename (lo8 < hi8) => hlt
    have M := mid_w hlt
    have h1 := hO.a
    have h2 := hO.c
    have h3 := M.a
    have h4 := M.b
    refine' sub_at (by k_asm) hm ?q0 ?q1 ?q2 ?_
    (case q0 => omega)
    (case q1 => omega)
    (case q2 => omega)
    k_steps
    refine Stop.go ?_
    k_dflt (refine' Spec.useI (hkey _ ?q3) ?k1 ?k2 ?k3 ?k4 ?k5 ?kK ?kd ?ku ?_)
    (case q3 => omega)
    walk_at "my:useI"
    k_steps
    · refine Stop.go ?_
      rename (x < List.getD _ _ _) => hc
      refine' ksw_end (_, _, _, _) (by k_asm) (by k_asm) ?hn trivial ?hk ?hr ?hp ?hm
      walk_at "my:wend"
      (case hp => exact hO.down M (by omega) (by omega) hF (decide_eq_false (Int.not_le.mpr hc)))
      (case hm => (dsimp only); omega)
    · refine Stop.go ?_
      rename (¬ (x < List.getD _ _ _)) => hc
      refine' ksw_end (_, _, _, _) (by k_asm) (by k_asm) ?hn trivial ?hk ?hr ?hp ?hm
      walk_at "my:wend"
      (case hp => exact hO.up M (by omega) (by omega) hF (decide_eq_true (Int.not_lt.mp hc)))
      (case hm => (dsimp only); omega)
  · rename (¬ lo8 < hi8) => hnlt
    refine' ret_isI ?e0 ?e1 ?e2 ?e3 ?e4
    (case e0 => assumption)
    (case e2 => k_asm)
    (case e3 => k_asm)
    (case e1 => exact hO.end_ (by omega) (by omega) hnlt)
    (case e4 => exact fun _ h => h)
end
section
open K_LBi
theorem c_bl_a : C_bl_a w p loose mean mg mb news l vs ks n x t1 nd f lo t2 dp un gd cn cs a ccd cl outer A₀ base h₀ L m s Q E g' L' h' := by
  unfold C_bl_a RunD
  dsimp only [fb12]
  k_fill
  intro hm hfit hkl hfn hkey h0 hlh hF B F X N T hk hdp hun hret FG' F' N' B' X' T'
  (try dsimp only)
  (try dsimp only [List.reverse, List.reverseAux, List.lookup] at F')
  (try k_lift B')
  (try k_fold)
  k_steps
  (try (exfalso; omega))
  refine Stop.go ?_
  rename Fr _ _ _ _ => FC
  rename News _ _ _ _ => NC
  refine' ksw_while (σ := Int × Tok × Int × Tok) (fun _ => news) (fun c => [(Str.ofString "lo", .int c.1 c.2.1), (Str.ofString "hi", .int c.2.2.1 c.2.2.2)])
    (fun _ => True) [Str.ofString "mid"] (fun c => BW (fun k => decide (k < x)) ks lo vs.length c.1 c.2.2.1) (fun c => (c.2.2.1 - c.1).toNat) (_, _, _, _) (by exact FC) (by exact NC) trivial ?hk ?hp ?_
  (case hk => kst_all)
  (case hp => exact BW.start (by omega))
  rintro ⟨lo8, tl, hi8, th⟩ u8 hD tkD _ hO FD ND
  dsimp only [kstB] at hO FD ND
  k_steps
  · refine Stop.go ?_
    rename (lo8 < hi8) => hlt
    have M := mid_w hlt
    have h1 := hO.a
    have h2 := hO.c
    have h3 := M.a
    have h4 := M.b
    refine' sub_at (by k_asm) hm ?q0 ?q1 ?q2 ?_
    (case q0 => omega)
    (case q1 => omega)
    (case q2 => omega)
    k_steps
    refine Stop.go ?_
    k_dflt (refine' Spec.useI (hkey _ ?q3) ?k1 ?k2 ?k3 ?k4 ?k5 ?kK ?kd ?ku ?_)
    (case q3 => omega)
    walk_at "my:useI"
    k_steps
    · refine Stop.go ?_
      rename (List.getD _ _ _ < x) => hc
      refine' ksw_end (_, _, _, _) (by k_asm) (by k_asm) ?hn trivial ?hk ?hr ?hp ?hm
      walk_at "my:wend"
      (case hp => exact hO.up M (by omega) (by omega) hF (decide_eq_true hc))
      (case hm => (dsimp only); omega)
    · refine Stop.go ?_
      rename (¬ (List.getD _ _ _ < x)) => hc
      refine' ksw_end (_, _, _, _) (by k_asm) (by k_asm) ?hn trivial ?hk ?hr ?hp ?hm
      walk_at "my:wend"
      (case hp => exact hO.down M (by omega) (by omega) hF (decide_eq_false hc))
      (case hm => (dsimp only); omega)
  · rename (¬ lo8 < hi8) => hnlt
    refine' ret_isI ?e0 ?e1 ?e2 ?e3 ?e4
    (case e0 => assumption)
    (case e2 => k_asm)
    (case e3 => k_asm)
    (case e1 => exact hO.end_ (by omega) (by omega) hnlt)
    (case e4 => exact fun _ h => h)
end
section
open K_LBi
theorem c_bl_d : C_bl_d w p loose mean mg mb news l vs ks n x t1 dp un gd cn cs a ccd cl outer A₀ base h₀ L m s Q E g' L' h' := by
  unfold C_bl_d RunD
  dsimp only [fb12]
  k_fill
  intro hm hfit hkl hks hF B F X N T hk hdp hun hret FG' F' N' B' X' T'
  (try dsimp only)
  (try dsimp only [List.reverse, List.reverseAux, List.lookup] at F')
  (try k_lift B')
  (try k_fold)
  k_steps
  refine Stop.go ?_
  rename Fr _ _ _ _ => FC
  rename News _ _ _ _ => NC
  refine' ksw_while (σ := Int × Tok × Int × Tok) (fun _ => news) (fun c => [(Str.ofString "lo", .int c.1 c.2.1), (Str.ofString "hi", .int c.2.2.1 c.2.2.2)])
    (fun _ => True) [Str.ofString "mid"] (fun c => BW (fun k => decide (k < x)) ks 0 vs.length c.1 c.2.2.1) (fun c => (c.2.2.1 - c.1).toNat) (_, _, _, _) (by exact FC) (by exact NC) trivial ?hk ?hp ?_
  (case hk => kst_all)
  (case hp => exact BW.start (by omega))
  rintro ⟨lo8, tl, hi8, th⟩ u8 hD tkD _ hO FD ND
  dsimp only [kstB] at hO FD ND
  k_steps
  · refine Stop.go ?_
    rename (lo8 < hi8) => hlt
    have M := mid_w hlt
    have h1 := hO.a
    have h2 := hO.c
    have h3 := M.a
    have h4 := M.b
    refine' ksa_sub (by k_asm) hm hks ?q0 ?q1 ?q2 ?_
    (case q0 => omega)
    (case q1 => omega)
    (case q2 => omega)
    intro _
    k_steps
    · refine Stop.go ?_
      rename (List.getD _ _ _ < x) => hc
      refine' ksw_end (_, _, _, _) (by k_asm) (by k_asm) ?hn trivial ?hk ?hr ?hp ?hm
      walk_at "my:wend"
      (case hp => exact hO.up M (by omega) (by omega) hF (decide_eq_true hc))
      (case hm => (dsimp only); omega)
    · refine Stop.go ?_
      rename (¬ (List.getD _ _ _ < x)) => hc
      refine' ksw_end (_, _, _, _) (by k_asm) (by k_asm) ?hn trivial ?hk ?hr ?hp ?hm
      walk_at "my:wend"
      (case hp => exact hO.down M (by omega) (by omega) hF (decide_eq_false hc))
      (case hm => (dsimp only); omega)
  · rename (¬ lo8 < hi8) => hnlt
    refine' ret_isI ?e0 ?e1 ?e2 ?e3 ?e4
    (case e0 => assumption)
    (case e2 => k_asm)
    (case e3 => k_asm)
    (case e1 => exact hO.end_ (by omega) (by omega) hnlt)
    (case e4 => exact fun _ h => h)
end
section
open K_LBi
theorem c_bl_e : C_bl_e w p loose mean mg mb news l vs ks n x t1 nd f dp un gd cn cs a ccd cl outer A₀ base h₀ L m s Q E g' L' h' := by
  unfold C_bl_e RunD
  dsimp only [fb12]
  k_fill
  intro hm hfit hkl hfn hkey hF B F X N T hk hdp hun hret FG' F' N' B' X' T'
  (try dsimp only)
  (try dsimp only [List.reverse, List.reverseAux, List.lookup] at F')
  (try k_lift B')
  (try k_fold)
  k_steps
  refine Stop.go ?_
  rename Fr _ _ _ _ => FC
  rename News _ _ _ _ => NC
  refine' ksw_while (σ := Int × Tok × Int × Tok) (fun _ => news) (fun c => [(Str.ofString "lo", .int c.1 c.2.1), (Str.ofString "hi", .int c.2.2.1 c.2.2.2)])
    (fun _ => True) [Str.ofString "mid"] (fun c => BW (fun k => decide (k < x)) ks 0 vs.length c.1 c.2.2.1) (fun c => (c.2.2.1 - c.1).toNat) (_, _, _, _) (by exact FC) (by exact NC) trivial ?hk ?hp ?_
  (case hk => kst_all)
  (case hp => exact BW.start (by omega))
  rintro ⟨lo8, tl, hi8, th⟩ u8 hD tkD _ hO FD ND
  dsimp only [kstB] at hO FD ND
  k_steps
  · refine Stop.go ?_
    rename (lo8 < hi8) => hlt
    have M := mid_w hlt
    have h1 := hO.a
    have h2 := hO.c
    have h3 := M.a
    have h4 := M.b
    refine' sub_at (by k_asm) hm ?q0 ?q1 ?q2 ?_
    (case q0 => omega)
    (case q1 => omega)
    (case q2 => omega)
    k_steps
    refine Stop.go ?_
    k_dflt (refine' Spec.useI (hkey _ ?q3) ?k1 ?k2 ?k3 ?k4 ?k5 ?kK ?kd ?ku ?_)
    (case q3 => omega)
    walk_at "my:useI"
    k_steps
    · refine Stop.go ?_
      rename (List.getD _ _ _ < x) => hc
      refine' ksw_end (_, _, _, _) (by k_asm) (by k_asm) ?hn trivial ?hk ?hr ?hp ?hm
      walk_at "my:wend"
      (case hp => exact hO.up M (by omega) (by omega) hF (decide_eq_true hc))
      (case hm => (dsimp only); omega)
    · refine Stop.go ?_
      rename (¬ (List.getD _ _ _ < x)) => hc
      refine' ksw_end (_, _, _, _) (by k_asm) (by k_asm) ?hn trivial ?hk ?hr ?hp ?hm
      walk_at "my:wend"
      (case hp => exact hO.down M (by omega) (by omega) hF (decide_eq_false hc))
      (case hm => (dsimp only); omega)
  · rename (¬ lo8 < hi8) => hnlt
    refine' ret_isI ?e0 ?e1 ?e2 ?e3 ?e4
    (case e0 => assumption)
    (case e2 => k_asm)
    (case e3 => k_asm)
    (case e1 => exact hO.end_ (by omega) (by omega) hnlt)
    (case e4 => exact fun _ h => h)
end
theorem all_LBi : ∀ v, VP_LBi v := k_LBi.2 ⟨c_br_a, c_br_b, c_br_c, c_br_d, c_br_e, c_bl_a, c_bl_d, c_bl_e⟩
section
variable (w : World) (p : Program) (loose : List Str) (mean : ExcName → Option Value) (mg mb : Str → Option Value)
theorem br_a (news : List (Addr × Obj)) (l : Addr) (vs : List Value) (ks : List Int) (n : Nat) (hm : (l, W.listOf vs.toArray n) ∈ news) (hfit : vs.length ≤ 1000) (hkl : ks.length = vs.length) (x : Int) (t1 : Tok) (nd : Nat) (f : Addr) (hfn : KeyFn w news f) (hkey : ∀ i : Nat, i < ks.length → Spec w p loose mean mg mb nd news f [vs.getD i .none] [] (isI (ks.getD i 0) news)) (lo : Int) (t2 : Tok) (h0 : 0 ≤ lo) (hlh : lo ≤ vs.length) (hF : Falls (fun k => decide (k ≤ x)) ks) :
    Spec w p loose mean mg mb (nd + 1) news 74 [.ref l, .int x t1, .int lo t2, .none] [(Str.ofString "key", .ref f)] (isI (cnt (fun k => decide (k ≤ x)) ks lo vs.length) news) := by
  refine' spec_body (qual := Str.ofString "bisect_right") (body := fb10.1) (scope := fb10.2) (cdv := .ref 73) (binds := [(Str.ofString "a", .ref l), (Str.ofString "x", .int x t1), (Str.ofString "lo", .int lo t2), (Str.ofString "hi", .none), (Str.ofString "key", .ref f)]) (fun z0 z1 z2 z3 z4 z5 z6 z7 z8 z9 z10 z11 z12 z13 z14 z15 z16 z17 z18 z19 => (all_LBi (w, p, loose, mean, mg, mb, news, l, vs, ks, n, x, t1, nd, f, lo, t2, z0, z1, z2, z3, z4, z5, z6, z7, z8, z9, z10, z11, z12, z13, z14, z15, z16, z17, z18, z19, K_LBi.hi, K_LBi.t3)).1 hm hfit hkl hfn hkey h0 hlh hF) ?ho ?hcd ?h1 ?hb ?hl ?c1 ?c2 ?c3 ?hc
  (case c1 => exact rfl); (case c2 => exact rfl); (case c3 => exact rfl)
  (case ho => k_is)
  (case hcd => k_is)
  (case h1 => omega)
  (case hb => exact fun _ _ _ _ F X => kp_binds (X.keeps F.keep) fun _ => rfl)
  (case hl => exact locs rfl)
  (case hc => decide)
end
section
variable (w : World) (p : Program) (loose : List Str) (mean : ExcName → Option Value) (mg mb : Str → Option Value)
theorem br_b (news : List (Addr × Obj)) (l : Addr) (vs : List Value) (ks : List Int) (n : Nat) (hm : (l, W.listOf vs.toArray n) ∈ news) (hfit : vs.length ≤ 1000) (hkl : ks.length = vs.length) (x : Int) (t1 : Tok) (nd : Nat) (f : Addr) (hfn : KeyFn w news f) (hkey : ∀ i : Nat, i < ks.length → Spec w p loose mean mg mb nd news f [vs.getD i .none] [] (isI (ks.getD i 0) news)) (lo : Int) (t2 : Tok) (h0 : 0 ≤ lo) (hlh : lo ≤ vs.length) (hF : Falls (fun k => decide (k ≤ x)) ks) :
    Spec w p loose mean mg mb (nd + 1) news 74 [.ref l, .int x t1, .int lo t2] [(Str.ofString "key", .ref f)] (isI (cnt (fun k => decide (k ≤ x)) ks lo vs.length) news) := by
  refine' spec_body (qual := Str.ofString "bisect_right") (body := fb10.1) (scope := fb10.2) (cdv := .ref 73) (binds := [(Str.ofString "a", .ref l), (Str.ofString "x", .int x t1), (Str.ofString "lo", .int lo t2), (Str.ofString "hi", .none), (Str.ofString "key", .ref f)]) (fun z0 z1 z2 z3 z4 z5 z6 z7 z8 z9 z10 z11 z12 z13 z14 z15 z16 z17 z18 z19 => (all_LBi (w, p, loose, mean, mg, mb, news, l, vs, ks, n, x, t1, nd, f, lo, t2, z0, z1, z2, z3, z4, z5, z6, z7, z8, z9, z10, z11, z12, z13, z14, z15, z16, z17, z18, z19, K_LBi.hi, K_LBi.t3)).2.1 hm hfit hkl hfn hkey h0 hlh hF) ?ho ?hcd ?h1 ?hb ?hl ?c1 ?c2 ?c3 ?hc
  (case c1 => exact rfl); (case c2 => exact rfl); (case c3 => exact rfl)
  (case ho => k_is)
  (case hcd => k_is)
  (case h1 => omega)
  (case hb => exact fun _ _ _ _ F X => kp_binds (X.keeps F.keep) fun _ => rfl)
  (case hl => exact locs rfl)
  (case hc => decide)
end
section
variable (w : World) (p : Program) (loose : List Str) (mean : ExcName → Option Value) (mg mb : Str → Option Value)
theorem br_c (news : List (Addr × Obj)) (l : Addr) (vs : List Value) (ks : List Int) (n : Nat) (hm : (l, W.listOf vs.toArray n) ∈ news) (hfit : vs.length ≤ 1000) (hkl : ks.length = vs.length) (x : Int) (t1 : Tok) (nd : Nat) (f : Addr) (hfn : KeyFn w news f) (hkey : ∀ i : Nat, i < ks.length → Spec w p loose mean mg mb nd news f [vs.getD i .none] [] (isI (ks.getD i 0) news)) (lo : Int) (t2 : Tok) (h0 : 0 ≤ lo) (hi : Int) (t3 : Tok) (hlh : lo ≤ hi) (hhl : hi ≤ vs.length) (hF : Falls (fun k => decide (k ≤ x)) ks) :
    Spec w p loose mean mg mb (nd + 1) news 74 [.ref l, .int x t1, .int lo t2, .int hi t3] [(Str.ofString "key", .ref f)] (isI (cnt (fun k => decide (k ≤ x)) ks lo hi) news) := by
  refine' spec_body (qual := Str.ofString "bisect_right") (body := fb10.1) (scope := fb10.2) (cdv := .ref 73) (binds := [(Str.ofString "a", .ref l), (Str.ofString "x", .int x t1), (Str.ofString "lo", .int lo t2), (Str.ofString "hi", .int hi t3), (Str.ofString "key", .ref f)]) (fun z0 z1 z2 z3 z4 z5 z6 z7 z8 z9 z10 z11 z12 z13 z14 z15 z16 z17 z18 z19 => (all_LBi (w, p, loose, mean, mg, mb, news, l, vs, ks, n, x, t1, nd, f, lo, t2, z0, z1, z2, z3, z4, z5, z6, z7, z8, z9, z10, z11, z12, z13, z14, z15, z16, z17, z18, z19, hi, t3)).2.2.1 hm hfit hkl hfn hkey h0 hlh hhl hF) ?ho ?hcd ?h1 ?hb ?hl ?c1 ?c2 ?c3 ?hc
  (case c1 => exact rfl); (case c2 => exact rfl); (case c3 => exact rfl)
  (case ho => k_is)
  (case hcd => k_is)
  (case h1 => omega)
  (case hb => exact fun _ _ _ _ F X => kp_binds (X.keeps F.keep) fun _ => rfl)
  (case hl => exact locs rfl)
  (case hc => decide)
end
section
variable (w : World) (p : Program) (loose : List Str) (mean : ExcName → Option Value) (mg mb : Str → Option Value)
theorem br_d (news : List (Addr × Obj)) (l : Addr) (vs : List Value) (ks : List Int) (n : Nat) (hm : (l, W.listOf vs.toArray n) ∈ news) (hfit : vs.length ≤ 1000) (hkl : ks.length = vs.length) (x : Int) (t1 : Tok) (hks : IntsAre vs ks) (hF : Falls (fun k => decide (k ≤ x)) ks) :
    Spec w p loose mean mg mb 2 news 74 [.ref l, .int x t1] [] (isI (cnt (fun k => decide (k ≤ x)) ks 0 vs.length) news) := by
  refine' spec_body (qual := Str.ofString "bisect_right") (body := fb10.1) (scope := fb10.2) (cdv := .ref 73) (binds := [(Str.ofString "a", .ref l), (Str.ofString "x", .int x t1), (Str.ofString "lo", .int 0 284), (Str.ofString "hi", .none), (Str.ofString "key", .none)]) (fun z0 z1 z2 z3 z4 z5 z6 z7 z8 z9 z10 z11 z12 z13 z14 z15 z16 z17 z18 z19 => (all_LBi (w, p, loose, mean, mg, mb, news, l, vs, ks, n, x, t1, K_LBi.nd, K_LBi.f, K_LBi.lo, K_LBi.t2, z0, z1, z2, z3, z4, z5, z6, z7, z8, z9, z10, z11, z12, z13, z14, z15, z16, z17, z18, z19, K_LBi.hi, K_LBi.t3)).2.2.2.1 hm hfit hkl hks hF) ?ho ?hcd ?h1 ?hb ?hl ?c1 ?c2 ?c3 ?hc
  (case c1 => exact rfl); (case c2 => exact rfl); (case c3 => exact rfl)
  (case ho => k_is)
  (case hcd => k_is)
  (case h1 => omega)
  (case hb => exact fun _ _ _ _ F X => kp_binds (X.keeps F.keep) fun _ => rfl)
  (case hl => exact locs rfl)
  (case hc => decide)
end
section
variable (w : World) (p : Program) (loose : List Str) (mean : ExcName → Option Value) (mg mb : Str → Option Value)
theorem br_e (news : List (Addr × Obj)) (l : Addr) (vs : List Value) (ks : List Int) (n : Nat) (hm : (l, W.listOf vs.toArray n) ∈ news) (hfit : vs.length ≤ 1000) (hkl : ks.length = vs.length) (x : Int) (t1 : Tok) (nd : Nat) (f : Addr) (hfn : KeyFn w news f) (hkey : ∀ i : Nat, i < ks.length → Spec w p loose mean mg mb nd news f [vs.getD i .none] [] (isI (ks.getD i 0) news)) (hF : Falls (fun k => decide (k ≤ x)) ks) :
    Spec w p loose mean mg mb (nd + 1) news 74 [.ref l, .int x t1] [(Str.ofString "key", .ref f)] (isI (cnt (fun k => decide (k ≤ x)) ks 0 vs.length) news) := by
  refine' spec_body (qual := Str.ofString "bisect_right") (body := fb10.1) (scope := fb10.2) (cdv := .ref 73) (binds := [(Str.ofString "a", .ref l), (Str.ofString "x", .int x t1), (Str.ofString "lo", .int 0 284), (Str.ofString "hi", .none), (Str.ofString "key", .ref f)]) (fun z0 z1 z2 z3 z4 z5 z6 z7 z8 z9 z10 z11 z12 z13 z14 z15 z16 z17 z18 z19 => (all_LBi (w, p, loose, mean, mg, mb, news, l, vs, ks, n, x, t1, nd, f, K_LBi.lo, K_LBi.t2, z0, z1, z2, z3, z4, z5, z6, z7, z8, z9, z10, z11, z12, z13, z14, z15, z16, z17, z18, z19, K_LBi.hi, K_LBi.t3)).2.2.2.2.1 hm hfit hkl hfn hkey hF) ?ho ?hcd ?h1 ?hb ?hl ?c1 ?c2 ?c3 ?hc
  (case c1 => exact rfl); (case c2 => exact rfl); (case c3 => exact rfl)
  (case ho => k_is)
  (case hcd => k_is)
  (case h1 => omega)
  (case hb => exact fun _ _ _ _ F X => kp_binds (X.keeps F.keep) fun _ => rfl)
  (case hl => exact locs rfl)
  (case hc => decide)
end
section
variable (w : World) (p : Program) (loose : List Str) (mean : ExcName → Option Value) (mg mb : Str → Option Value)
theorem bl_a (news : List (Addr × Obj)) (l : Addr) (vs : List Value) (ks : List Int) (n : Nat) (hm : (l, W.listOf vs.toArray n) ∈ news) (hfit : vs.length ≤ 1000) (hkl : ks.length = vs.length) (x : Int) (t1 : Tok) (nd : Nat) (f : Addr) (hfn : KeyFn w news f) (hkey : ∀ i : Nat, i < ks.length → Spec w p loose mean mg mb nd news f [vs.getD i .none] [] (isI (ks.getD i 0) news)) (lo : Int) (t2 : Tok) (h0 : 0 ≤ lo) (hlh : lo ≤ vs.length) (hF : Falls (fun k => decide (k < x)) ks) :
    Spec w p loose mean mg mb (nd + 1) news 92 [.ref l, .int x t1, .int lo t2, .none] [(Str.ofString "key", .ref f)] (isI (cnt (fun k => decide (k < x)) ks lo vs.length) news) := by
  refine' spec_body (qual := Str.ofString "bisect_left") (body := fb12.1) (scope := fb12.2) (cdv := .ref 91) (binds := [(Str.ofString "a", .ref l), (Str.ofString "x", .int x t1), (Str.ofString "lo", .int lo t2), (Str.ofString "hi", .none), (Str.ofString "key", .ref f)]) (fun z0 z1 z2 z3 z4 z5 z6 z7 z8 z9 z10 z11 z12 z13 z14 z15 z16 z17 z18 z19 => (all_LBi (w, p, loose, mean, mg, mb, news, l, vs, ks, n, x, t1, nd, f, lo, t2, z0, z1, z2, z3, z4, z5, z6, z7, z8, z9, z10, z11, z12, z13, z14, z15, z16, z17, z18, z19, K_LBi.hi, K_LBi.t3)).2.2.2.2.2.1 hm hfit hkl hfn hkey h0 hlh hF) ?ho ?hcd ?h1 ?hb ?hl ?c1 ?c2 ?c3 ?hc
  (case c1 => exact rfl); (case c2 => exact rfl); (case c3 => exact rfl)
  (case ho => k_is)
  (case hcd => k_is)
  (case h1 => omega)
  (case hb => exact fun _ _ _ _ F X => kp_binds (X.keeps F.keep) fun _ => rfl)
  (case hl => exact locs rfl)
  (case hc => decide)
end
section
variable (w : World) (p : Program) (loose : List Str) (mean : ExcName → Option Value) (mg mb : Str → Option Value)
theorem bl_d (news : List (Addr × Obj)) (l : Addr) (vs : List Value) (ks : List Int) (n : Nat) (hm : (l, W.listOf vs.toArray n) ∈ news) (hfit : vs.length ≤ 1000) (hkl : ks.length = vs.length) (x : Int) (t1 : Tok) (hks : IntsAre vs ks) (hF : Falls (fun k => decide (k < x)) ks) :
    Spec w p loose mean mg mb 2 news 92 [.ref l, .int x t1] [] (isI (cnt (fun k => decide (k < x)) ks 0 vs.length) news) := by
  refine' spec_body (qual := Str.ofString "bisect_left") (body := fb12.1) (scope := fb12.2) (cdv := .ref 91) (binds := [(Str.ofString "a", .ref l), (Str.ofString "x", .int x t1), (Str.ofString "lo", .int 0 311), (Str.ofString "hi", .none), (Str.ofString "key", .none)]) (fun z0 z1 z2 z3 z4 z5 z6 z7 z8 z9 z10 z11 z12 z13 z14 z15 z16 z17 z18 z19 => (all_LBi (w, p, loose, mean, mg, mb, news, l, vs, ks, n, x, t1, K_LBi.nd, K_LBi.f, K_LBi.lo, K_LBi.t2, z0, z1, z2, z3, z4, z5, z6, z7, z8, z9, z10, z11, z12, z13, z14, z15, z16, z17, z18, z19, K_LBi.hi, K_LBi.t3)).2.2.2.2.2.2.1 hm hfit hkl hks hF) ?ho ?hcd ?h1 ?hb ?hl ?c1 ?c2 ?c3 ?hc
  (case c1 => exact rfl); (case c2 => exact rfl); (case c3 => exact rfl)
  (case ho => k_is)
  (case hcd => k_is)
  (case h1 => omega)
  (case hb => exact fun _ _ _ _ F X => kp_binds (X.keeps F.keep) fun _ => rfl)
  (case hl => exact locs rfl)
  (case hc => decide)
end
section
variable (w : World) (p : Program) (loose : List Str) (mean : ExcName → Option Value) (mg mb : Str → Option Value)
theorem bl_e (news : List (Addr × Obj)) (l : Addr) (vs : List Value) (ks : List Int) (n : Nat) (hm : (l, W.listOf vs.toArray n) ∈ news) (hfit : vs.length ≤ 1000) (hkl : ks.length = vs.length) (x : Int) (t1 : Tok) (nd : Nat) (f : Addr) (hfn : KeyFn w news f) (hkey : ∀ i : Nat, i < ks.length → Spec w p loose mean mg mb nd news f [vs.getD i .none] [] (isI (ks.getD i 0) news)) (hF : Falls (fun k => decide (k < x)) ks) :
    Spec w p loose mean mg mb (nd + 1) news 92 [.ref l, .int x t1] [(Str.ofString "key", .ref f)] (isI (cnt (fun k => decide (k < x)) ks 0 vs.length) news) := by
  refine' spec_body (qual := Str.ofString "bisect_left") (body := fb12.1) (scope := fb12.2) (cdv := .ref 91) (binds := [(Str.ofString "a", .ref l), (Str.ofString "x", .int x t1), (Str.ofString "lo", .int 0 311), (Str.ofString "hi", .none), (Str.ofString "key", .ref f)]) (fun z0 z1 z2 z3 z4 z5 z6 z7 z8 z9 z10 z11 z12 z13 z14 z15 z16 z17 z18 z19 => (all_LBi (w, p, loose, mean, mg, mb, news, l, vs, ks, n, x, t1, nd, f, K_LBi.lo, K_LBi.t2, z0, z1, z2, z3, z4, z5, z6, z7, z8, z9, z10, z11, z12, z13, z14, z15, z16, z17, z18, z19, K_LBi.hi, K_LBi.t3)).2.2.2.2.2.2.2 hm hfit hkl hfn hkey hF) ?ho ?hcd ?h1 ?hb ?hl ?c1 ?c2 ?c3 ?hc
  (case c1 => exact rfl); (case c2 => exact rfl); (case c3 => exact rfl)
  (case ho => k_is)
  (case hcd => k_is)
  (case h1 => omega)
  (case hb => exact fun _ _ _ _ F X => kp_binds (X.keeps F.keep) fun _ => rfl)
  (case hl => exact locs rfl)
  (case hc => decide)
end
end
end
theorem off_LBi : True := trivial
-- LI
theorem again_LI : True := by w_top off; (try walk1); trivial
section
def isU (nw' : List (Addr × Obj)) (r : Value) (nw : List (Addr × Obj)) : Prop := r = .none ∧ nw = nw'
theorem Spec.useU {w : World} {p : Program} {loose : List Str} {mean : ExcName → Option Value} {mg mb : Str → Option Value} {need : Nat} {news nw' : List (Addr × Obj)} {f : Addr} {vs : List Value} {kw : List (Str × Value)}
    {dp un : Nat} {gd : Option (List Code)} {cn : Str} {cs : Scope} {a : Addr} {ccd : Value} {cl : List (Str × Addr)} {outer : List Env} {A₀ : Around} {base h₀ : Heap} {L : Addr} {m : Str → Option Value} {s : Shared} {Q E : Value → Shared → Prop}
    (S : Spec w p loose mean mg mb need news f vs kw (isU nw'))
    (B : Below A₀ base outer h₀) (F : Fr h₀ L s.heap m) (X : (hd.heap_39 w.params).In h₀) (N : News h₀ L s.heap news) (T : Top p loose mean mg mb h₀) (hk : cs.kind = .function) (hd : dp + need < recursionLimit) (hu : un + 8 * need < cLine)
    (ret : ∀ h' tk', Fr h₀ L h' m → News h₀ L h' nw' → Q .none { s with heap := h', toks := tk' }) :
    wpAny (model PySem.Challenge.rw_tl0033_01.row.prog w) (ktrTop dp un gd cn cs L a ccd cl outer) (call (.ref f) vs kw) Q E s :=
  S.use B F X N T hk hd hu fun r news' h' tk' F' N' P => by
    obtain ⟨rfl, rfl⟩ := P
    exact ret h' tk' F' N'
theorem upd_mem {d : Addr} {o o' : Obj} {l l' : List (Addr × Obj)} (U : Upd d o o' l l') : (d, o) ∈ l := by
  obtain ⟨pre, post, rfl, _⟩ := U.split
  exact List.mem_append.mpr (.inr (.head _))
theorem cnt_in {P : Int → Bool} {ks : List Int} {hi : Int} (hh : hi ≤ ks.length) (h0 : 0 ≤ hi) : 0 ≤ cnt P ks 0 hi ∧ cnt P ks 0 hi ≤ hi := by
  unfold cnt
  have := List.countP_le_length (p := P) (l := (ks.drop (0 : Int).toNat).take (hi.toNat - (0 : Int).toNat))
  rw [List.length_take] at this
  omega
theorem fits_ix {x : Int} (h : 0 ≤ x) (h' : x ≤ 1000) : Builtin.List.listFitsIndex x = true := by
  unfold Builtin.List.listFitsIndex
  simp only [Bool.and_eq_true, decide_eq_true_eq]
  omega
section
theorem lay_18 : True := by
  k_with "my:fnat" => ((fail_if_success (have z9 := off_LI)); ((with_reducible rename KeyFn _ _ _ => zhKey); refine' zhKey _ _ _ _ (by k_asm) (by k_asm) (by k_asm)))
  k_with "FnAt" => ((fail_if_success (have z9 := off_LI)); (walk_at "my:fnat"))
  k_with "callWith ref" => ((fail_if_success (have z9 := off_LI)); (k_here; k_dflt (refine' callWith_F (by walk_at "my:fnat") ?_; k_whole)))
  k_with "call ref" => ((fail_if_success (have z9 := off_LI)); (refine stop_here ?_))
  k_with "call builtin:list.insert" => ((fail_if_success (have z9 := off_LI)); (refine stop_here ?_))
  trivial
def C_ir_a (w : World) (p : Program) (loose : List Str) (mean : ExcName → Option Value) (mg : Str → Option Value) (mb : Str → Option Value) (news : List (Addr × Obj)) (news' : List (Addr × Obj)) (l : Addr) (vs : List Value) (ks : List Int) (n : Nat) (x : Value) (kx : Int) (nd : Nat) (f : Addr) (dp : Nat) (un : Nat) (gd : Option (List Code)) (cn : Str) (cs : Scope) (a : Addr) (ccd : Value) (cl : List (Str × Addr)) (outer : List Env) (A₀ : Around) (base : Heap) (h₀ : Heap) (L : Addr) (m : Str → Option Value) (s : Shared) (Q : Value → Shared → Prop) (E : Value → Shared → Prop) (g' : Heap) (L' : Addr) (h' : Heap) : Prop :=
  (Upd l (W.listOf vs.toArray n) (W.listOf (kl_ins vs (cnt (fun k => decide (k ≤ kx)) ks 0 vs.length) x).toArray (n + 1)) news news') →
  (vs.length ≤ 1000) →
  (ks.length = vs.length) →
  (KeyFn w news f) →
  (Spec w p loose mean mg mb (nd + 1) news f [x] [] (isI kx news)) →
  (∀ i : Nat, i < ks.length → Spec w p loose mean mg mb nd news f [vs.getD i .none] [] (isI (ks.getD i 0) news)) →
  (Falls (fun k => decide (k ≤ kx)) ks) →
  RunD w p loose mean mg mb (nd + 2) news 65 (isU news') (Str.ofString "insort_right") fb9.1 fb9.2 (.ref 64) [(Str.ofString "a", .ref l), (Str.ofString "x", x), (Str.ofString "lo", .int 0 271), (Str.ofString "hi", .none), (Str.ofString "key", .ref f)] dp un gd cn cs a ccd cl outer A₀ base h₀ L m s Q E g' L' h'
def C_il_a (w : World) (p : Program) (loose : List Str) (mean : ExcName → Option Value) (mg : Str → Option Value) (mb : Str → Option Value) (news : List (Addr × Obj)) (news' : List (Addr × Obj)) (l : Addr) (vs : List Value) (ks : List Int) (n : Nat) (x : Value) (kx : Int) (nd : Nat) (f : Addr) (dp : Nat) (un : Nat) (gd : Option (List Code)) (cn : Str) (cs : Scope) (a : Addr) (ccd : Value) (cl : List (Str × Addr)) (outer : List Env) (A₀ : Around) (base : Heap) (h₀ : Heap) (L : Addr) (m : Str → Option Value) (s : Shared) (Q : Value → Shared → Prop) (E : Value → Shared → Prop) (g' : Heap) (L' : Addr) (h' : Heap) : Prop :=
  (Upd l (W.listOf vs.toArray n) (W.listOf (kl_ins vs (cnt (fun k => decide (k < kx)) ks 0 vs.length) x).toArray (n + 1)) news news') →
  (vs.length ≤ 1000) →
  (ks.length = vs.length) →
  (KeyFn w news f) →
  (Spec w p loose mean mg mb (nd + 1) news f [x] [] (isI kx news)) →
  (∀ i : Nat, i < ks.length → Spec w p loose mean mg mb nd news f [vs.getD i .none] [] (isI (ks.getD i 0) news)) →
  (Falls (fun k => decide (k < kx)) ks) →
  RunD w p loose mean mg mb (nd + 2) news 83 (isU news') (Str.ofString "insort_left") fb11.1 fb11.2 (.ref 82) [(Str.ofString "a", .ref l), (Str.ofString "x", x), (Str.ofString "lo", .int 0 298), (Str.ofString "hi", .none), (Str.ofString "key", .ref f)] dp un gd cn cs a ccd cl outer A₀ base h₀ L m s Q E g' L' h'
abbrev V_LI := (World) × (Program) × (List Str) × (ExcName → Option Value) × (Str → Option Value) × (Str → Option Value) × (List (Addr × Obj)) × (List (Addr × Obj)) × (Addr) × (List Value) × (List Int) × (Nat) × (Value) × (Int) × (Nat) × (Addr) × (Nat) × (Nat) × (Option (List Code)) × (Str) × (Scope) × (Addr) × (Value) × (List (Str × Addr)) × (List Env) × (Around) × (Heap) × (Heap) × (Addr) × (Str → Option Value) × (Shared) × (Value → Shared → Prop) × (Value → Shared → Prop) × (Heap) × (Addr) × (Heap)
def D_ir_a (v : V_LI) : Prop := C_ir_a v.1 v.2.1 v.2.2.1 v.2.2.2.1 v.2.2.2.2.1 v.2.2.2.2.2.1 v.2.2.2.2.2.2.1 v.2.2.2.2.2.2.2.1 v.2.2.2.2.2.2.2.2.1 v.2.2.2.2.2.2.2.2.2.1 v.2.2.2.2.2.2.2.2.2.2.1 v.2.2.2.2.2.2.2.2.2.2.2.1 v.2.2.2.2.2.2.2.2.2.2.2.2.1 v.2.2.2.2.2.2.2.2.2.2.2.2.2.1 v.2.2.2.2.2.2.2.2.2.2.2.2.2.2.1 v.2.2.2.2.2.2.2.2.2.2.2.2.2.2.2.1 v.2.2.2.2.2.2.2.2.2.2.2.2.2.2.2.2.1 v.2.2.2.2.2.2.2.2.2.2.2.2.2.2.2.2.2.1 v.2.2.2.2.2.2.2.2.2.2.2.2.2.2.2.2.2.2.1 v.2.2.2.2.2.2.2.2.2.2.2.2.2.2.2.2.2.2.2.1 v.2.2.2.2.2.2.2.2.2.2.2.2.2.2.2.2.2.2.2.2.1 v.2.2.2.2.2.2.2.2.2.2.2.2.2.2.2.2.2.2.2.2.2.1 v.2.2.2.2.2.2.2.2.2.2.2.2.2.2.2.2.2.2.2.2.2.2.1 v.2.2.2.2.2.2.2.2.2.2.2.2.2.2.2.2.2.2.2.2.2.2.2.1 v.2.2.2.2.2.2.2.2.2.2.2.2.2.2.2.2.2.2.2.2.2.2.2.2.1 v.2.2.2.2.2.2.2.2.2.2.2.2.2.2.2.2.2.2.2.2.2.2.2.2.2.1 v.2.2.2.2.2.2.2.2.2.2.2.2.2.2.2.2.2.2.2.2.2.2.2.2.2.2.1 v.2.2.2.2.2.2.2.2.2.2.2.2.2.2.2.2.2.2.2.2.2.2.2.2.2.2.2.1 v.2.2.2.2.2.2.2.2.2.2.2.2.2.2.2.2.2.2.2.2.2.2.2.2.2.2.2.2.1 v.2.2.2.2.2.2.2.2.2.2.2.2.2.2.2.2.2.2.2.2.2.2.2.2.2.2.2.2.2.1 v.2.2.2.2.2.2.2.2.2.2.2.2.2.2.2.2.2.2.2.2.2.2.2.2.2.2.2.2.2.2.1 v.2.2.2.2.2.2.2.2.2.2.2.2.2.2.2.2.2.2.2.2.2.2.2.2.2.2.2.2.2.2.2.1 v.2.2.2.2.2.2.2.2.2.2.2.2.2.2.2.2.2.2.2.2.2.2.2.2.2.2.2.2.2.2.2.2.1 v.2.2.2.2.2.2.2.2.2.2.2.2.2.2.2.2.2.2.2.2.2.2.2.2.2.2.2.2.2.2.2.2.2.1 v.2.2.2.2.2.2.2.2.2.2.2.2.2.2.2.2.2.2.2.2.2.2.2.2.2.2.2.2.2.2.2.2.2.2.1 v.2.2.2.2.2.2.2.2.2.2.2.2.2.2.2.2.2.2.2.2.2.2.2.2.2.2.2.2.2.2.2.2.2.2.2
def D_il_a (v : V_LI) : Prop := C_il_a v.1 v.2.1 v.2.2.1 v.2.2.2.1 v.2.2.2.2.1 v.2.2.2.2.2.1 v.2.2.2.2.2.2.1 v.2.2.2.2.2.2.2.1 v.2.2.2.2.2.2.2.2.1 v.2.2.2.2.2.2.2.2.2.1 v.2.2.2.2.2.2.2.2.2.2.1 v.2.2.2.2.2.2.2.2.2.2.2.1 v.2.2.2.2.2.2.2.2.2.2.2.2.1 v.2.2.2.2.2.2.2.2.2.2.2.2.2.1 v.2.2.2.2.2.2.2.2.2.2.2.2.2.2.1 v.2.2.2.2.2.2.2.2.2.2.2.2.2.2.2.1 v.2.2.2.2.2.2.2.2.2.2.2.2.2.2.2.2.1 v.2.2.2.2.2.2.2.2.2.2.2.2.2.2.2.2.2.1 v.2.2.2.2.2.2.2.2.2.2.2.2.2.2.2.2.2.2.1 v.2.2.2.2.2.2.2.2.2.2.2.2.2.2.2.2.2.2.2.1 v.2.2.2.2.2.2.2.2.2.2.2.2.2.2.2.2.2.2.2.2.1 v.2.2.2.2.2.2.2.2.2.2.2.2.2.2.2.2.2.2.2.2.2.1 v.2.2.2.2.2.2.2.2.2.2.2.2.2.2.2.2.2.2.2.2.2.2.1 v.2.2.2.2.2.2.2.2.2.2.2.2.2.2.2.2.2.2.2.2.2.2.2.1 v.2.2.2.2.2.2.2.2.2.2.2.2.2.2.2.2.2.2.2.2.2.2.2.2.1 v.2.2.2.2.2.2.2.2.2.2.2.2.2.2.2.2.2.2.2.2.2.2.2.2.2.1 v.2.2.2.2.2.2.2.2.2.2.2.2.2.2.2.2.2.2.2.2.2.2.2.2.2.2.1 v.2.2.2.2.2.2.2.2.2.2.2.2.2.2.2.2.2.2.2.2.2.2.2.2.2.2.2.1 v.2.2.2.2.2.2.2.2.2.2.2.2.2.2.2.2.2.2.2.2.2.2.2.2.2.2.2.2.1 v.2.2.2.2.2.2.2.2.2.2.2.2.2.2.2.2.2.2.2.2.2.2.2.2.2.2.2.2.2.1 v.2.2.2.2.2.2.2.2.2.2.2.2.2.2.2.2.2.2.2.2.2.2.2.2.2.2.2.2.2.2.1 v.2.2.2.2.2.2.2.2.2.2.2.2.2.2.2.2.2.2.2.2.2.2.2.2.2.2.2.2.2.2.2.1 v.2.2.2.2.2.2.2.2.2.2.2.2.2.2.2.2.2.2.2.2.2.2.2.2.2.2.2.2.2.2.2.2.1 v.2.2.2.2.2.2.2.2.2.2.2.2.2.2.2.2.2.2.2.2.2.2.2.2.2.2.2.2.2.2.2.2.2.1 v.2.2.2.2.2.2.2.2.2.2.2.2.2.2.2.2.2.2.2.2.2.2.2.2.2.2.2.2.2.2.2.2.2.2.1 v.2.2.2.2.2.2.2.2.2.2.2.2.2.2.2.2.2.2.2.2.2.2.2.2.2.2.2.2.2.2.2.2.2.2.2
def VP_LI (v : V_LI) : Prop := D_ir_a v ∧ D_il_a v
theorem ne_LI : Nonempty V_LI := ⟨((⟨fun _ _ => 0, { strHash := fun _ => 0, shareClass := fun _ => 0, mergeTok := id, idOf := fun _ => 0, idOfShared := fun _ _ => 0, followText := fun _ => false, idOfImm := fun _ => 0 }⟩ : World), (default : Program), ([] : List Str), (fun _  => none), (fun _  => none), (fun _  => none), ([] : List (Addr × Obj)), ([] : List (Addr × Obj)), (0 : Addr), ([] : List Value), ([] : List Int), (0 : Nat), (.none : Value), (0 : Int), (0 : Nat), (0 : Addr), (0 : Nat), (0 : Nat), (none : Option (List Code)), (Str.empty : Str), (default : Scope), (0 : Addr), (.none : Value), ([] : List (Str × Addr)), ([] : List Env), ({} : Around), ({} : Heap), ({} : Heap), (0 : Addr), (fun _  => none), ({} : Shared), (fun _ _  => True), (fun _ _  => True), ({} : Heap), (0 : Addr), ({} : Heap))⟩
noncomputable def k_LI : {v : V_LI // VP_LI v → ∀ x, VP_LI x} := Classical.choice (drink ne_LI VP_LI)
noncomputable def K_LI.w : World := k_LI.1.1
noncomputable def K_LI.p : Program := k_LI.1.2.1
noncomputable def K_LI.loose : List Str := k_LI.1.2.2.1
noncomputable def K_LI.mean : ExcName → Option Value := k_LI.1.2.2.2.1
noncomputable def K_LI.mg : Str → Option Value := k_LI.1.2.2.2.2.1
noncomputable def K_LI.mb : Str → Option Value := k_LI.1.2.2.2.2.2.1
noncomputable def K_LI.news : List (Addr × Obj) := k_LI.1.2.2.2.2.2.2.1
noncomputable def K_LI.news' : List (Addr × Obj) := k_LI.1.2.2.2.2.2.2.2.1
noncomputable def K_LI.l : Addr := k_LI.1.2.2.2.2.2.2.2.2.1
noncomputable def K_LI.vs : List Value := k_LI.1.2.2.2.2.2.2.2.2.2.1
noncomputable def K_LI.ks : List Int := k_LI.1.2.2.2.2.2.2.2.2.2.2.1
noncomputable def K_LI.n : Nat := k_LI.1.2.2.2.2.2.2.2.2.2.2.2.1
noncomputable def K_LI.x : Value := k_LI.1.2.2.2.2.2.2.2.2.2.2.2.2.1
noncomputable def K_LI.kx : Int := k_LI.1.2.2.2.2.2.2.2.2.2.2.2.2.2.1
noncomputable def K_LI.nd : Nat := k_LI.1.2.2.2.2.2.2.2.2.2.2.2.2.2.2.1
noncomputable def K_LI.f : Addr := k_LI.1.2.2.2.2.2.2.2.2.2.2.2.2.2.2.2.1
noncomputable def K_LI.dp : Nat := k_LI.1.2.2.2.2.2.2.2.2.2.2.2.2.2.2.2.2.1
noncomputable def K_LI.un : Nat := k_LI.1.2.2.2.2.2.2.2.2.2.2.2.2.2.2.2.2.2.1
noncomputable def K_LI.gd : Option (List Code) := k_LI.1.2.2.2.2.2.2.2.2.2.2.2.2.2.2.2.2.2.2.1
noncomputable def K_LI.cn : Str := k_LI.1.2.2.2.2.2.2.2.2.2.2.2.2.2.2.2.2.2.2.2.1
noncomputable def K_LI.cs : Scope := k_LI.1.2.2.2.2.2.2.2.2.2.2.2.2.2.2.2.2.2.2.2.2.1
noncomputable def K_LI.a : Addr := k_LI.1.2.2.2.2.2.2.2.2.2.2.2.2.2.2.2.2.2.2.2.2.2.1
noncomputable def K_LI.ccd : Value := k_LI.1.2.2.2.2.2.2.2.2.2.2.2.2.2.2.2.2.2.2.2.2.2.2.1
noncomputable def K_LI.cl : List (Str × Addr) := k_LI.1.2.2.2.2.2.2.2.2.2.2.2.2.2.2.2.2.2.2.2.2.2.2.2.1
noncomputable def K_LI.outer : List Env := k_LI.1.2.2.2.2.2.2.2.2.2.2.2.2.2.2.2.2.2.2.2.2.2.2.2.2.1
noncomputable def K_LI.A₀ : Around := k_LI.1.2.2.2.2.2.2.2.2.2.2.2.2.2.2.2.2.2.2.2.2.2.2.2.2.2.1
noncomputable def K_LI.base : Heap := k_LI.1.2.2.2.2.2.2.2.2.2.2.2.2.2.2.2.2.2.2.2.2.2.2.2.2.2.2.1
noncomputable def K_LI.h₀ : Heap := k_LI.1.2.2.2.2.2.2.2.2.2.2.2.2.2.2.2.2.2.2.2.2.2.2.2.2.2.2.2.1
noncomputable def K_LI.L : Addr := k_LI.1.2.2.2.2.2.2.2.2.2.2.2.2.2.2.2.2.2.2.2.2.2.2.2.2.2.2.2.2.1
noncomputable def K_LI.m : Str → Option Value := k_LI.1.2.2.2.2.2.2.2.2.2.2.2.2.2.2.2.2.2.2.2.2.2.2.2.2.2.2.2.2.2.1
noncomputable def K_LI.s : Shared := k_LI.1.2.2.2.2.2.2.2.2.2.2.2.2.2.2.2.2.2.2.2.2.2.2.2.2.2.2.2.2.2.2.1
noncomputable def K_LI.Q : Value → Shared → Prop := k_LI.1.2.2.2.2.2.2.2.2.2.2.2.2.2.2.2.2.2.2.2.2.2.2.2.2.2.2.2.2.2.2.2.1
noncomputable def K_LI.E : Value → Shared → Prop := k_LI.1.2.2.2.2.2.2.2.2.2.2.2.2.2.2.2.2.2.2.2.2.2.2.2.2.2.2.2.2.2.2.2.2.1
noncomputable def K_LI.g' : Heap := k_LI.1.2.2.2.2.2.2.2.2.2.2.2.2.2.2.2.2.2.2.2.2.2.2.2.2.2.2.2.2.2.2.2.2.2.1
noncomputable def K_LI.L' : Addr := k_LI.1.2.2.2.2.2.2.2.2.2.2.2.2.2.2.2.2.2.2.2.2.2.2.2.2.2.2.2.2.2.2.2.2.2.2.1
noncomputable def K_LI.h' : Heap := k_LI.1.2.2.2.2.2.2.2.2.2.2.2.2.2.2.2.2.2.2.2.2.2.2.2.2.2.2.2.2.2.2.2.2.2.2.2
section
open K_LI
theorem c_ir_a : C_ir_a w p loose mean mg mb news news' l vs ks n x kx nd f dp un gd cn cs a ccd cl outer A₀ base h₀ L m s Q E g' L' h' := by
  unfold C_ir_a RunD
  dsimp only [fb9]
  k_fill
  intro U hfit hkl hfn hkx hkey hF B F X N T hk hdp hun hret FG' F' N' B' X' T'
  (try dsimp only)
  (try dsimp only [List.reverse, List.reverseAux, List.lookup] at F')
  (try k_lift B')
  (try k_fold)
  have hm := upd_mem U
  k_steps
  refine Stop.go ?_
  k_dflt (refine' Spec.useI hkx ?k1 ?k2 ?k3 ?k4 ?k5 ?kK ?kd ?ku ?_)
  walk_at "my:useI"
  k_steps
  refine Stop.go ?_
  k_dflt (refine' Spec.useI (br_a w p loose mean mg mb news l vs ks n hm hfit hkl kx _ nd f hfn hkey 0 _ (by omega) (by omega) hF) ?k1 ?k2 ?k3 ?k4 ?k5 ?kK ?kd ?ku ?_)
  walk_at "my:useI"
  k_steps
  refine Stop.go ?_
  have hc := cnt_in (P := fun k => decide (k ≤ kx)) (ks := ks) (hi := vs.length) (by omega) (by omega)
  refine' kl_insert ?F ?N (fits_ix hc.1 (by omega)) ?e U ?z ?_
  (case F => k_asm)
  (case N => k_asm)
  (case e => exact rfl)
  (case z => (rw [sizeLine_eq]; show vs.length ≤ _; omega))
  intro h9 F9 N9
  (try dsimp only)
  k_steps
  exact hret _ _ _ _ (by k_asm) (by k_asm) ⟨rfl, rfl⟩
end
section
open K_LI
theorem c_il_a : C_il_a w p loose mean mg mb news news' l vs ks n x kx nd f dp un gd cn cs a ccd cl outer A₀ base h₀ L m s Q E g' L' h' := by
  unfold C_il_a RunD
  dsimp only [fb11]
  k_fill
  intro U hfit hkl hfn hkx hkey hF B F X N T hk hdp hun hret FG' F' N' B' X' T'
  (try dsimp only)
  (try dsimp only [List.reverse, List.reverseAux, List.lookup] at F')
  (try k_lift B')
  (try k_fold)
  have hm := upd_mem U
  k_steps
  refine Stop.go ?_
  k_dflt (refine' Spec.useI hkx ?k1 ?k2 ?k3 ?k4 ?k5 ?kK ?kd ?ku ?_)
  walk_at "my:useI"
  k_steps
  refine Stop.go ?_
  k_dflt (refine' Spec.useI (bl_a w p loose mean mg mb news l vs ks n hm hfit hkl kx _ nd f hfn hkey 0 _ (by omega) (by omega) hF) ?k1 ?k2 ?k3 ?k4 ?k5 ?kK ?kd ?ku ?_)
  walk_at "my:useI"
  k_steps
  refine Stop.go ?_
  have hc := cnt_in (P := fun k => decide (k < kx)) (ks := ks) (hi := vs.length) (by omega) (by omega)
  refine' kl_insert ?F ?N (fits_ix hc.1 (by omega)) ?e U ?z ?_
  (case F => k_asm)
  (case N => k_asm)
  (case e => exact rfl)
  (case z => (rw [sizeLine_eq]; show vs.length ≤ _; omega))
  intro h9 F9 N9
  (try dsimp only)
  k_steps
  exact hret _ _ _ _ (by k_asm) (by k_asm) ⟨rfl, rfl⟩
end
theorem all_LI : ∀ v, VP_LI v := k_LI.2 ⟨c_ir_a, c_il_a⟩
section
variable (w : World) (p : Program) (loose : List Str) (mean : ExcName → Option Value) (mg mb : Str → Option Value)
theorem ir_a (news news' : List (Addr × Obj)) (l : Addr) (vs : List Value) (ks : List Int) (n : Nat) (x : Value) (kx : Int)
    (U : Upd l (W.listOf vs.toArray n) (W.listOf (kl_ins vs (cnt (fun k => decide (k ≤ kx)) ks 0 vs.length) x).toArray (n + 1)) news news') (hfit : vs.length ≤ 1000) (hkl : ks.length = vs.length)
    (nd : Nat) (f : Addr) (hfn : KeyFn w news f) (hkx : Spec w p loose mean mg mb (nd + 1) news f [x] [] (isI kx news)) (hkey : ∀ i : Nat, i < ks.length → Spec w p loose mean mg mb nd news f [vs.getD i .none] [] (isI (ks.getD i 0) news)) (hF : Falls (fun k => decide (k ≤ kx)) ks) :
    Spec w p loose mean mg mb (nd + 2) news 65 [.ref l, x] [(Str.ofString "key", .ref f)] (isU news') := by
  refine' spec_body (qual := Str.ofString "insort_right") (body := fb9.1) (scope := fb9.2) (cdv := .ref 64) (binds := [(Str.ofString "a", .ref l), (Str.ofString "x", x), (Str.ofString "lo", .int 0 271), (Str.ofString "hi", .none), (Str.ofString "key", .ref f)]) (fun z0 z1 z2 z3 z4 z5 z6 z7 z8 z9 z10 z11 z12 z13 z14 z15 z16 z17 z18 z19 => (all_LI (w, p, loose, mean, mg, mb, news, news', l, vs, ks, n, x, kx, nd, f, z0, z1, z2, z3, z4, z5, z6, z7, z8, z9, z10, z11, z12, z13, z14, z15, z16, z17, z18, z19)).1 U hfit hkl hfn hkx hkey hF) ?ho ?hcd ?h1 ?hb ?hl ?c1 ?c2 ?c3 ?hc
  (case c1 => exact rfl); (case c2 => exact rfl); (case c3 => exact rfl)
  (case ho => k_is)
  (case hcd => k_is)
  (case h1 => omega)
  (case hb => exact fun _ _ _ _ F X => kp_binds (X.keeps F.keep) fun _ => rfl)
  (case hl => exact locs rfl)
  (case hc => decide)
end
section
variable (w : World) (p : Program) (loose : List Str) (mean : ExcName → Option Value) (mg mb : Str → Option Value)
theorem il_a (news news' : List (Addr × Obj)) (l : Addr) (vs : List Value) (ks : List Int) (n : Nat) (x : Value) (kx : Int)
    (U : Upd l (W.listOf vs.toArray n) (W.listOf (kl_ins vs (cnt (fun k => decide (k < kx)) ks 0 vs.length) x).toArray (n + 1)) news news') (hfit : vs.length ≤ 1000) (hkl : ks.length = vs.length)
    (nd : Nat) (f : Addr) (hfn : KeyFn w news f) (hkx : Spec w p loose mean mg mb (nd + 1) news f [x] [] (isI kx news)) (hkey : ∀ i : Nat, i < ks.length → Spec w p loose mean mg mb nd news f [vs.getD i .none] [] (isI (ks.getD i 0) news)) (hF : Falls (fun k => decide (k < kx)) ks) :
    Spec w p loose mean mg mb (nd + 2) news 83 [.ref l, x] [(Str.ofString "key", .ref f)] (isU news') := by
  refine' spec_body (qual := Str.ofString "insort_left") (body := fb11.1) (scope := fb11.2) (cdv := .ref 82) (binds := [(Str.ofString "a", .ref l), (Str.ofString "x", x), (Str.ofString "lo", .int 0 298), (Str.ofString "hi", .none), (Str.ofString "key", .ref f)]) (fun z0 z1 z2 z3 z4 z5 z6 z7 z8 z9 z10 z11 z12 z13 z14 z15 z16 z17 z18 z19 => (all_LI (w, p, loose, mean, mg, mb, news, news', l, vs, ks, n, x, kx, nd, f, z0, z1, z2, z3, z4, z5, z6, z7, z8, z9, z10, z11, z12, z13, z14, z15, z16, z17, z18, z19)).2 U hfit hkl hfn hkx hkey hF) ?ho ?hcd ?h1 ?hb ?hl ?c1 ?c2 ?c3 ?hc
  (case c1 => exact rfl); (case c2 => exact rfl); (case c3 => exact rfl)
  (case ho => k_is)
  (case hcd => k_is)
  (case h1 => omega)
  (case hb => exact fun _ _ _ _ F X => kp_binds (X.keeps F.keep) fun _ => rfl)
  (case hl => exact locs rfl)
  (case hc => decide)
end
end
end
theorem off_LI : True := trivial
-- LTk
theorem again_LTk : True := by w_top off; (try walk1); trivial
section
theorem runs_toks {M : Model} {Γ : PySem.Ctx} {p : Pos} {t : Sem Fin} {fs : List Frame} {s s' : Shared} {e : End} (h : Runs M Γ p t fs s e s') : s.toks ≤ s'.toks := by
  induction h with
  | done => exact Nat.le_refl _
  | raise => exact Nat.le_refl _
  | again _ _ ih => exact ih
  | rule _ ih => exact ih
  | «at» _ ih => exact ih
  | load _ _ ih => exact ih
  | update _ _ ih => exact ih
  | loadIfAlive _ ih => exact ih
  | point _ ih => exact ih
  | alloc _ ih => exact ih
  | fresh _ ih => exact Nat.le_trans (Nat.le_succ _) ih
  | ask _ ih => exact ih
  | choose _ _ ih => exact ih
  | os _ ih => exact ih
  | handled _ ih => exact ih
  | genState _ _ ih => exact ih
  | stack _ ih => exact ih
  | thread _ ih => exact ih
  | newGen _ ih => exact ih
  | call _ _ ih₁ ih₂ => exact Nat.le_trans ih₁ ih₂
  | callSusp _ ih => exact ih
  | yield => exact Nat.le_refl _
  | resumeFresh _ _ _ _ ih₁ ih₂ => exact Nat.le_trans ih₁ ih₂
  | resumeSuspended _ _ _ _ ih₁ ih₂ => exact Nat.le_trans ih₁ ih₂
  | resumeJustStarted _ _ _ ih => exact ih
  | resumeThrowFresh _ _ ih => exact ih
  | resumeRunning _ _ ih => exact ih
  | resumeFinished _ _ ih => exact ih
  | segRet _ _ ih₁ ih₂ => exact Nat.le_trans ih₁ ih₂
  | segGen _ _ ih₁ ih₂ => exact Nat.le_trans ih₁ ih₂
  | segSuspOut _ _ ih => exact ih
  | segSuspGen _ _ _ _ ih₁ ih₂ => exact Nat.le_trans ih₁ ih₂
theorem wakes_toks {M : Model} {Γ : PySem.Ctx} {p : Pos} {g : Nat} {r : Resume} {s s' : Shared} {res : GenResult} (h : Wakes M Γ p g r s res s') : s.toks ≤ s'.toks := by
  unfold Wakes at h
  split at h
  · exact h.elim
  · split at h
    · obtain ⟨e₁, s₁, h1, _, _, rfl⟩ := h
      have z := runs_toks h1
      exact z
    · obtain ⟨_, rfl⟩ := h
      exact Nat.le_refl _
    · obtain ⟨_, rfl⟩ := h
      exact Nat.le_refl _
  · obtain ⟨e₁, s₁, h1, _, _, rfl⟩ := h
    have z := runs_toks h1
    exact z
  · obtain ⟨_, rfl⟩ := h
    exact Nat.le_refl _
  · obtain ⟨_, rfl⟩ := h
    exact Nat.le_refl _
theorem wp_toks {α : Type} {M : Model} {Γ : PySem.Ctx} {n : Nat} (t : Sem α) : ∀ {Q : α → Pos → Shared → Prop} {E : Value → Pos → Shared → Prop} {p : Pos} {s : Shared}, n ≤ s.toks →
    Sem.wp M Γ t Q E p s → Sem.wp M Γ t (fun a p' s' => n ≤ s'.toks ∧ Q a p' s') (fun e p' s' => n ≤ s'.toks ∧ E e p' s') p s := by
  induction t with
  | pure a => intro Q E p s hn h; rw [Sem.wp] at h ⊢; exact ⟨hn, h⟩
  | raise e => intro Q E p s hn h; rw [Sem.wp] at h ⊢; exact ⟨hn, h⟩
  | «unsupported» w => intro Q E p s hn h; rw [Sem.wp] at h; exact h.elim
  | finish e => intro Q E p s hn h; rw [Sem.wp] at h; exact h.elim
  | rule tag k ih => intro Q E p s hn h; rw [Sem.wp] at h ⊢; exact ih () hn h
  | «at» p' k ih => intro Q E p s hn h; rw [Sem.wp] at h ⊢; exact ih () hn h
  | load a q k ih => intro Q E p s hn h; rw [Sem.wp] at h ⊢; obtain ⟨o, h1, h2⟩ := h; exact ⟨o, h1, ih o hn h2⟩
  | update a q f k ih => intro Q E p s hn h; rw [Sem.wp] at h ⊢; exact ⟨h.1, ih () hn h.2⟩
  | alloc o k ih => intro Q E p s hn h; rw [Sem.wp] at h ⊢; exact ih _ hn h
  | loadIfAlive a k ih => intro Q E p s hn h; rw [Sem.wp] at h ⊢; exact ih _ hn h
  | point l k ih => intro Q E p s hn h; rw [Sem.wp] at h ⊢; exact ih () hn h
  | register a k ih => intro Q E p s hn h; rw [Sem.wp] at h; exact h.elim
  | fresh k ih => intro Q E p s hn h; rw [Sem.wp] at h ⊢; exact ih _ (Nat.le_succ_of_le hn) h
  | ask k ih => intro Q E p s hn h; rw [Sem.wp] at h ⊢; exact ih _ hn h
  | choose src m k ih => intro Q E p s hn h; rw [Sem.wp] at h ⊢; exact ⟨h.1, ih _ hn h.2⟩
  | os q l k ih => intro Q E p s hn h; rw [Sem.wp] at h ⊢; exact ih _ hn h
  | call c hd g l k ih =>
    intro Q E p s hn h
    rw [Sem.wp] at h ⊢
    obtain ⟨r, s₁, h1, h2⟩ := h
    exact ⟨r, s₁, h1, ih r (Nat.le_trans hn (runs_toks h1)) h2⟩
  | handled own k ih => intro Q E p s hn h; rw [Sem.wp] at h ⊢; exact ih _ hn h
  | newGen c k ih => intro Q E p s hn h; rw [Sem.wp] at h ⊢; exact ih _ hn h
  | genState g k ih => intro Q E p s hn h; rw [Sem.wp] at h ⊢; obtain ⟨o, h1, h2⟩ := h; exact ⟨o, h1, ih _ hn h2⟩
  | resume g r l k ih =>
    intro Q E p s hn h
    rw [Sem.wp] at h ⊢
    obtain ⟨res, s₁, h1, h2⟩ := h
    exact ⟨res, s₁, h1, ih res (Nat.le_trans hn (wakes_toks h1)) h2⟩
  | yield v g l k ih => intro Q E p s hn h; rw [Sem.wp] at h; exact h.elim
  | stack k ih => intro Q E p s hn h; rw [Sem.wp] at h ⊢; exact ih _ hn h
  | fork c k ih => intro Q E p s hn h; rw [Sem.wp] at h; exact h.elim
  | thread k ih => intro Q E p s hn h; rw [Sem.wp] at h ⊢; exact ih _ hn h
  | await a tk ti l k ih => intro Q E p s hn h; rw [Sem.wp] at h; exact h.elim
theorem wpAny_toks {α : Type} {M : Model} {A : Around} {t : Sem α} {Q : α → Shared → Prop} {E : Value → Shared → Prop} {s : Shared}
    (h : wpAny M A t (fun a s' => s.toks ≤ s'.toks → Q a s') (fun e s' => s.toks ≤ s'.toks → E e s') s) : wpAny M A t Q E s :=
  fun Γ p hΓ => Sem.wp_mono M Γ t (fun _ _ _ x => x.2 x.1) (fun _ _ _ x => x.2 x.1) p s (wp_toks t (Nat.le_refl _) (h Γ p hΓ))
end
-- LCo
theorem again_LCo : True := by w_top off; (try walk1); trivial
section
theorem lay_19 : True := by
  k_with "on:iter" => (fail_if_success (have z9 := off_LCo))
  trivial
theorem same_ints {M : Model} {A : Around} {E : Value → Shared → Prop} {s : Shared} {p q : Int} {t u : Tok} {Q : Bool → Shared → Prop} (ht : t ≠ 0) (hu : u ≠ 0) (hne : p ≠ q → t ≠ u) (hs : p = q → PySem.smallInt p = true) (h : Q (decide (p = q)) s) :
    wpAny M A (PySem.isSame (.int p t) (.int q u)) Q E s := by
  have h0 : (t == 0 || u == 0) = false := by
    rw [Bool.or_eq_false_iff]
    exact ⟨beq_eq_false_iff_ne.mpr ht, beq_eq_false_iff_ne.mpr hu⟩
  show wpAny M A (if (p == q && PySem.smallInt p) = true then PySem.isSame.cachedInt t u else PySem.isSame.created (p == q) t u) Q E s
  by_cases e : p = q
  · rw [if_pos (by rw [beq_iff_eq.mpr e, hs e]; rfl)]
    unfold PySem.isSame.cachedInt
    rw [if_neg (by rw [h0]; exact Bool.false_ne_true)]
    rw [decide_eq_true e] at h
    exact wpAny_bind (wpAny_rule (wpAny_pure h))
  · rw [if_neg (by rw [beq_eq_false_iff_ne.mpr e]; exact Bool.false_ne_true)]
    unfold PySem.isSame.created
    rw [decide_eq_false e] at h
    refine wpAny_ite ?_
    split
    · rename_i x; rw [h0] at x; exact absurd x Bool.false_ne_true
    refine wpAny_ite ?_
    split
    · rename_i x; exact absurd (eq_of_beq x) (hne e)
    refine wpAny_ite ?_
    split
    · exact wpAny_pure h
    · rename_i x; rw [beq_eq_false_iff_ne.mpr e] at x; exact absurd rfl x
theorem is_ints {M : Model} {A : Around} {E : Value → Shared → Prop} {s : Shared} {p q : Int} {t u : Tok} {Q : Value → Shared → Prop} (ht : t ≠ 0) (hu : u ≠ 0) (hne : p ≠ q → t ≠ u) (hs : p = q → PySem.smallInt p = true) (h : Q (.bool (decide (p = q))) s) :
    wpAny M A (compareOp .Is (.int p t) (.int q u)) Q E s := wpAny_bind (same_ints ht hu hne hs (wpAny_pure h))
theorem small_of {x : Int} (h : 0 ≤ x) (h' : x ≤ 256) : PySem.smallInt x = true := by
  unfold PySem.smallInt
  simp only [Bool.and_eq_true, decide_eq_true_eq]
  omega
def TokOk (x : Int) (u : Tok) (vs : List Value) : Prop := ∀ k t, Value.int k t ∈ vs → t ≠ 0 ∧ (k ≠ x → t ≠ u)
structure CofW (x : Int) (u : Tok) (tot : Int) (rest : List Value) (c : Int) : Prop where
  one : ∃ ri, IntsAre rest ri ∧ c + (ri.countP (fun k => decide (k = x)) : Nat) = tot
  two : TokOk x u rest
structure CofV (x : Int) (u : Tok) (tot : Int) (r : List Value) (c : Int) (k : Int) (t : Tok) : Prop where
  yes : k = x → CofW x u tot r (c + 1)
  no : k ≠ x → CofW x u tot r c
  t0 : t ≠ 0
  tu : k ≠ x → t ≠ u
theorem CofW.next {x tot c : Int} {u : Tok} {v : Value} {r : List Value} (h : CofW x u tot (v :: r) c) : ∃ k t, v = .int k t ∧ CofV x u tot r c k t := by
  obtain ⟨⟨ri, h1, h2⟩, h3⟩ := h
  have h4 : TokOk x u r := fun k t hm => h3 k t (List.mem_cons_of_mem _ hm)
  cases h1 with
  | cons k t h =>
    have h5 := h3 k t List.mem_cons_self
    refine ⟨k, t, rfl, fun e => ⟨⟨_, h, ?_⟩, h4⟩, fun e => ⟨⟨_, h, ?_⟩, h4⟩, h5.1, h5.2⟩
    · rw [List.countP_cons] at h2; simp only [e, decide_true, if_true] at h2; omega
    · rw [List.countP_cons] at h2; simp only [e, decide_false] at h2; simp at h2; omega
theorem CofW.last {x tot c : Int} {u : Tok} (h : CofW x u tot [] c) : c = tot := by
  obtain ⟨⟨ri, h1, h2⟩, _⟩ := h
  cases h1
  rw [List.countP_nil] at h2
  omega
section
theorem lay_20 : True := by
  k_with "exec For Name Name cons nil" => ((fail_if_success (have z9 := off_LCo)); (k_here; (rename Fr _ _ _ _ => zlF); (with_unfolding_all refine' For_invVF zlF (by exact rfl) (by exact rfl) ?_; k_whole)))
  k_with "exec For Name Call cons nil" => ((fail_if_success (have z9 := off_LCo)); (k_here; (rename Fr _ _ _ _ => zlF); (with_unfolding_all refine' For_invVF zlF (by exact rfl) (by exact rfl) ?_; k_whole)))
  k_with "compareOp Is int int" => ((fail_if_success (have z9 := off_LCo)); (refine stop_here ?_))
  trivial
def C_spec_cof (w : World) (p : Program) (loose : List Str) (mean : ExcName → Option Value) (mg : Str → Option Value) (mb : Str → Option Value) (news : List (Addr × Obj)) (l : Addr) (vs : List Value) (ks : List Int) (n : Nat) (x : Int) (t1 : Tok) (dp : Nat) (un : Nat) (gd : Option (List Code)) (cn : Str) (cs : Scope) (a : Addr) (ccd : Value) (cl : List (Str × Addr)) (outer : List Env) (A₀ : Around) (base : Heap) (h₀ : Heap) (L : Addr) (m : Str → Option Value) (s : Shared) (Q : Value → Shared → Prop) (E : Value → Shared → Prop) (g' : Heap) (L' : Addr) (h' : Heap) : Prop :=
  ((l, W.listOf vs.toArray n) ∈ news) →
  (IntsAre vs ks) →
  (0 ≤ x) →
  (x ≤ 256) →
  (t1 ≠ 0) →
  (TokOk x t1 vs) →
  RunD w p loose mean mg mb 1 news 176 (isI (ks.countP (fun k => decide (k = x)) : Nat) news) (Str.ofString "countOf") fb25.1 fb25.2 (.ref 175) [(Str.ofString "a", .ref l), (Str.ofString "b", .int x t1)] dp un gd cn cs a ccd cl outer A₀ base h₀ L m s Q E g' L' h'
abbrev V_LCo := (World) × (Program) × (List Str) × (ExcName → Option Value) × (Str → Option Value) × (Str → Option Value) × (List (Addr × Obj)) × (Addr) × (List Value) × (List Int) × (Nat) × (Int) × (Tok) × (Nat) × (Nat) × (Option (List Code)) × (Str) × (Scope) × (Addr) × (Value) × (List (Str × Addr)) × (List Env) × (Around) × (Heap) × (Heap) × (Addr) × (Str → Option Value) × (Shared) × (Value → Shared → Prop) × (Value → Shared → Prop) × (Heap) × (Addr) × (Heap)
def D_spec_cof (v : V_LCo) : Prop := C_spec_cof v.1 v.2.1 v.2.2.1 v.2.2.2.1 v.2.2.2.2.1 v.2.2.2.2.2.1 v.2.2.2.2.2.2.1 v.2.2.2.2.2.2.2.1 v.2.2.2.2.2.2.2.2.1 v.2.2.2.2.2.2.2.2.2.1 v.2.2.2.2.2.2.2.2.2.2.1 v.2.2.2.2.2.2.2.2.2.2.2.1 v.2.2.2.2.2.2.2.2.2.2.2.2.1 v.2.2.2.2.2.2.2.2.2.2.2.2.2.1 v.2.2.2.2.2.2.2.2.2.2.2.2.2.2.1 v.2.2.2.2.2.2.2.2.2.2.2.2.2.2.2.1 v.2.2.2.2.2.2.2.2.2.2.2.2.2.2.2.2.1 v.2.2.2.2.2.2.2.2.2.2.2.2.2.2.2.2.2.1 v.2.2.2.2.2.2.2.2.2.2.2.2.2.2.2.2.2.2.1 v.2.2.2.2.2.2.2.2.2.2.2.2.2.2.2.2.2.2.2.1 v.2.2.2.2.2.2.2.2.2.2.2.2.2.2.2.2.2.2.2.2.1 v.2.2.2.2.2.2.2.2.2.2.2.2.2.2.2.2.2.2.2.2.2.1 v.2.2.2.2.2.2.2.2.2.2.2.2.2.2.2.2.2.2.2.2.2.2.1 v.2.2.2.2.2.2.2.2.2.2.2.2.2.2.2.2.2.2.2.2.2.2.2.1 v.2.2.2.2.2.2.2.2.2.2.2.2.2.2.2.2.2.2.2.2.2.2.2.2.1 v.2.2.2.2.2.2.2.2.2.2.2.2.2.2.2.2.2.2.2.2.2.2.2.2.2.1 v.2.2.2.2.2.2.2.2.2.2.2.2.2.2.2.2.2.2.2.2.2.2.2.2.2.2.1 v.2.2.2.2.2.2.2.2.2.2.2.2.2.2.2.2.2.2.2.2.2.2.2.2.2.2.2.1 v.2.2.2.2.2.2.2.2.2.2.2.2.2.2.2.2.2.2.2.2.2.2.2.2.2.2.2.2.1 v.2.2.2.2.2.2.2.2.2.2.2.2.2.2.2.2.2.2.2.2.2.2.2.2.2.2.2.2.2.1 v.2.2.2.2.2.2.2.2.2.2.2.2.2.2.2.2.2.2.2.2.2.2.2.2.2.2.2.2.2.2.1 v.2.2.2.2.2.2.2.2.2.2.2.2.2.2.2.2.2.2.2.2.2.2.2.2.2.2.2.2.2.2.2.1 v.2.2.2.2.2.2.2.2.2.2.2.2.2.2.2.2.2.2.2.2.2.2.2.2.2.2.2.2.2.2.2.2
def VP_LCo (v : V_LCo) : Prop := D_spec_cof v
theorem ne_LCo : Nonempty V_LCo := ⟨((⟨fun _ _ => 0, { strHash := fun _ => 0, shareClass := fun _ => 0, mergeTok := id, idOf := fun _ => 0, idOfShared := fun _ _ => 0, followText := fun _ => false, idOfImm := fun _ => 0 }⟩ : World), (default : Program), ([] : List Str), (fun _  => none), (fun _  => none), (fun _  => none), ([] : List (Addr × Obj)), (0 : Addr), ([] : List Value), ([] : List Int), (0 : Nat), (0 : Int), (0 : Tok), (0 : Nat), (0 : Nat), (none : Option (List Code)), (Str.empty : Str), (default : Scope), (0 : Addr), (.none : Value), ([] : List (Str × Addr)), ([] : List Env), ({} : Around), ({} : Heap), ({} : Heap), (0 : Addr), (fun _  => none), ({} : Shared), (fun _ _  => True), (fun _ _  => True), ({} : Heap), (0 : Addr), ({} : Heap))⟩
noncomputable def k_LCo : {v : V_LCo // VP_LCo v → ∀ x, VP_LCo x} := Classical.choice (drink ne_LCo VP_LCo)
noncomputable def K_LCo.w : World := k_LCo.1.1
noncomputable def K_LCo.p : Program := k_LCo.1.2.1
noncomputable def K_LCo.loose : List Str := k_LCo.1.2.2.1
noncomputable def K_LCo.mean : ExcName → Option Value := k_LCo.1.2.2.2.1
noncomputable def K_LCo.mg : Str → Option Value := k_LCo.1.2.2.2.2.1
noncomputable def K_LCo.mb : Str → Option Value := k_LCo.1.2.2.2.2.2.1
noncomputable def K_LCo.news : List (Addr × Obj) := k_LCo.1.2.2.2.2.2.2.1
noncomputable def K_LCo.l : Addr := k_LCo.1.2.2.2.2.2.2.2.1
noncomputable def K_LCo.vs : List Value := k_LCo.1.2.2.2.2.2.2.2.2.1
noncomputable def K_LCo.ks : List Int := k_LCo.1.2.2.2.2.2.2.2.2.2.1
noncomputable def K_LCo.n : Nat := k_LCo.1.2.2.2.2.2.2.2.2.2.2.1
noncomputable def K_LCo.x : Int := k_LCo.1.2.2.2.2.2.2.2.2.2.2.2.1
noncomputable def K_LCo.t1 : Tok := k_LCo.1.2.2.2.2.2.2.2.2.2.2.2.2.1
noncomputable def K_LCo.dp : Nat := k_LCo.1.2.2.2.2.2.2.2.2.2.2.2.2.2.1
noncomputable def K_LCo.un : Nat := k_LCo.1.2.2.2.2.2.2.2.2.2.2.2.2.2.2.1
noncomputable def K_LCo.gd : Option (List Code) := k_LCo.1.2.2.2.2.2.2.2.2.2.2.2.2.2.2.2.1
noncomputable def K_LCo.cn : Str := k_LCo.1.2.2.2.2.2.2.2.2.2.2.2.2.2.2.2.2.1
noncomputable def K_LCo.cs : Scope := k_LCo.1.2.2.2.2.2.2.2.2.2.2.2.2.2.2.2.2.2.1
noncomputable def K_LCo.a : Addr := k_LCo.1.2.2.2.2.2.2.2.2.2.2.2.2.2.2.2.2.2.2.1
noncomputable def K_LCo.ccd : Value := k_LCo.1.2.2.2.2.2.2.2.2.2.2.2.2.2.2.2.2.2.2.2.1
noncomputable def K_LCo.cl : List (Str × Addr) := k_LCo.1.2.2.2.2.2.2.2.2.2.2.2.2.2.2.2.2.2.2.2.2.1
noncomputable def K_LCo.outer : List Env := k_LCo.1.2.2.2.2.2.2.2.2.2.2.2.2.2.2.2.2.2.2.2.2.2.1
noncomputable def K_LCo.A₀ : Around := k_LCo.1.2.2.2.2.2.2.2.2.2.2.2.2.2.2.2.2.2.2.2.2.2.2.1
noncomputable def K_LCo.base : Heap := k_LCo.1.2.2.2.2.2.2.2.2.2.2.2.2.2.2.2.2.2.2.2.2.2.2.2.1
noncomputable def K_LCo.h₀ : Heap := k_LCo.1.2.2.2.2.2.2.2.2.2.2.2.2.2.2.2.2.2.2.2.2.2.2.2.2.1
noncomputable def K_LCo.L : Addr := k_LCo.1.2.2.2.2.2.2.2.2.2.2.2.2.2.2.2.2.2.2.2.2.2.2.2.2.2.1
noncomputable def K_LCo.m : Str → Option Value := k_LCo.1.2.2.2.2.2.2.2.2.2.2.2.2.2.2.2.2.2.2.2.2.2.2.2.2.2.2.1
noncomputable def K_LCo.s : Shared := k_LCo.1.2.2.2.2.2.2.2.2.2.2.2.2.2.2.2.2.2.2.2.2.2.2.2.2.2.2.2.1
noncomputable def K_LCo.Q : Value → Shared → Prop := k_LCo.1.2.2.2.2.2.2.2.2.2.2.2.2.2.2.2.2.2.2.2.2.2.2.2.2.2.2.2.2.1
noncomputable def K_LCo.E : Value → Shared → Prop := k_LCo.1.2.2.2.2.2.2.2.2.2.2.2.2.2.2.2.2.2.2.2.2.2.2.2.2.2.2.2.2.2.1
noncomputable def K_LCo.g' : Heap := k_LCo.1.2.2.2.2.2.2.2.2.2.2.2.2.2.2.2.2.2.2.2.2.2.2.2.2.2.2.2.2.2.2.1
noncomputable def K_LCo.L' : Addr := k_LCo.1.2.2.2.2.2.2.2.2.2.2.2.2.2.2.2.2.2.2.2.2.2.2.2.2.2.2.2.2.2.2.2.1
noncomputable def K_LCo.h' : Heap := k_LCo.1.2.2.2.2.2.2.2.2.2.2.2.2.2.2.2.2.2.2.2.2.2.2.2.2.2.2.2.2.2.2.2.2
section
open K_LCo
theorem c_spec_cof : C_spec_cof w p loose mean mg mb news l vs ks n x t1 dp un gd cn cs a ccd cl outer A₀ base h₀ L m s Q E g' L' h' := by
  unfold C_spec_cof RunD
  dsimp only [fb25]
  k_fill
  intro hm hi hx hx' ht1 hT B F X N T hk hdp hun hret FG' F' N' B' X' T'
  (try dsimp only)
  (try dsimp only [List.reverse, List.reverseAux, List.lookup] at F')
  (try k_lift B')
  (try k_fold)
  k_steps
  refine Stop.go ?_
  rename Fr _ _ _ _ => FC
  rename News _ _ _ _ => NC
  refine' loop_list (σ := Int × Tok) (vs := vs) (n := n) (fun _ => news) (fun c => [(Str.ofString "count", .int c.1 c.2)]) [Str.ofString "count"] (fun rest c => CofW x t1 (ks.countP (fun k => decide (k = x)) : Nat) rest c.1) (_, _) rfl FC NC (fun _ => hm) rfl rfl ?hk ?hp ?_ ?_
  (case hk => kst_all)
  (case hp => exact ⟨⟨ks, hi, Int.zero_add _⟩, hT⟩)
  · rintro I hI v r ⟨c, tc⟩ u it h8 tk8 hW F8 N8 hne
    obtain ⟨k, tv, rfl, hV⟩ := hW.next
    dsimp only [kstB] at F8 N8
    k_steps
    refine Stop.go ?_
    refine is_ints hV.t0 ht1 hV.tu (fun e => by rw [e]; exact small_of hx hx') ?_
    k_steps
    all_goals dsimp only [LPost]
    all_goals (first | (rename (k = x) => e1; rename (¬ k = x) => e2; exact absurd e1 e2) | skip)
    · rename (k = x) => e
      refine' LEnd.mk (c + 1, _) (by k_asm) (by k_asm) ?hn ?ho ?hk ?hr (hV.yes e)
      (case ho => exact hne)
      (case hn => exact fun _ h => h)
      (case hk => kst_all)
      (case hr => walk_at "my:same")
    · rename (¬ k = x) => e
      refine' LEnd.mk (c, tc) (by k_asm) (by k_asm) ?hn ?ho ?hk ?hr (hV.no e)
      (case ho => exact hne)
      (case hn => exact fun _ h => h)
      (case hk => kst_all)
      (case hr => walk_at "my:same")
  · rintro ⟨c, tc⟩ u h8 tk8 hW F8 N8
    dsimp only [kstB] at F8 N8
    have e := hW.last
    dsimp only at e
    subst e
    k_steps
    walk_at "my:out"
end
theorem all_LCo : ∀ v, VP_LCo v := k_LCo.2 c_spec_cof
section
variable (w : World) (p : Program) (loose : List Str) (mean : ExcName → Option Value) (mg mb : Str → Option Value)
theorem spec_cof (news : List (Addr × Obj)) (l : Addr) (vs : List Value) (ks : List Int) (n : Nat) (hm : (l, W.listOf vs.toArray n) ∈ news) (hi : IntsAre vs ks) (x : Int) (t1 : Tok) (hx : 0 ≤ x) (hx' : x ≤ 256) (ht1 : t1 ≠ 0) (hT : TokOk x t1 vs) :
    Spec w p loose mean mg mb 1 news 176 [.ref l, .int x t1] [] (isI (ks.countP (fun k => decide (k = x)) : Nat) news) := by
  refine' spec_body (qual := Str.ofString "countOf") (body := fb25.1) (scope := fb25.2) (cdv := .ref 175) (binds := [(Str.ofString "a", .ref l), (Str.ofString "b", .int x t1)]) (fun z0 z1 z2 z3 z4 z5 z6 z7 z8 z9 z10 z11 z12 z13 z14 z15 z16 z17 z18 z19 => (all_LCo (w, p, loose, mean, mg, mb, news, l, vs, ks, n, x, t1, z0, z1, z2, z3, z4, z5, z6, z7, z8, z9, z10, z11, z12, z13, z14, z15, z16, z17, z18, z19)) hm hi hx hx' ht1 hT) ?ho ?hcd ?h1 ?hb ?hl ?c1 ?c2 ?c3 ?hc
  (case c1 => exact rfl); (case c2 => exact rfl); (case c3 => exact rfl)
  (case ho => k_is)
  (case hcd => k_is)
  (case h1 => omega)
  (case hb => exact fun _ _ _ _ _ _ => BindsTo.of_eq rfl)
  (case hl => exact locs rfl)
  (case hc => decide)
end
end
end
theorem off_LCo : True := trivial
-- LCn
theorem again_LCn : True := by w_top off; (try walk1); trivial
section
theorem lay_21 : True := by
  k_with "on:iter" => (fail_if_success (have z9 := off_LCn))
  trivial
noncomputable def tallyF : List Int → List Int → List Int
  | c, [] => c
  | c, e :: r => tallyF (c.set e.toNat (c.getD e.toNat 0 + 1)) r
structure CntW (N : Nat) (tot : List Int) (rest : List Value) (vs : List Value) (c : List Int) : Prop where
  one : ∃ ri, IntsAre rest ri ∧ (∀ e ∈ ri, 0 ≤ e ∧ e < N) ∧ tallyF c ri = tot
  two : IntsAre vs c
  len : c.length = N
structure CntV (N : Nat) (tot : List Int) (r : List Value) (vs : List Value) (c : List Int) (k : Int) : Prop where
  lo : 0 ≤ k
  hi : k < N
  is : IntsAre vs c
  len : c.length = N
  on : ∀ vs', IntsAre vs' (c.set k.toNat (c.getD k.toNat 0 + 1)) → CntW N tot r vs' (c.set k.toNat (c.getD k.toNat 0 + 1))
theorem CntW.next {N : Nat} {tot c : List Int} {v : Value} {r vs : List Value} (h : CntW N tot (v :: r) vs c) : ∃ k t, v = .int k t ∧ CntV N tot r vs c k := by
  obtain ⟨⟨ri, h1, h2, h3⟩, h4, h5⟩ := h
  cases h1 with
  | cons k t h =>
    have h6 := h2 k List.mem_cons_self
    exact ⟨k, t, rfl, h6.1, h6.2, h4, h5, fun vs' hv => ⟨⟨_, h, fun e he => h2 e (List.mem_cons_of_mem _ he), h3⟩, hv, by rw [List.length_set]; exact h5⟩⟩
theorem CntW.last {N : Nat} {tot c : List Int} {vs : List Value} (h : CntW N tot [] vs c) : c = tot := by
  obtain ⟨⟨ri, h1, _, h2⟩, _⟩ := h
  cases h1
  exact h2
theorem ints_zeros (t : Tok) : ∀ k : Nat, IntsAre (List.flatten (List.replicate k [Value.int 0 t])) (List.replicate k 0)
  | 0 => IntsAre.nil
  | k + 1 => by
    rw [List.replicate_succ, List.replicate_succ, List.flatten_cons]
    exact IntsAre.cons _ _ (ints_zeros t k)
section
theorem lay_22 : True := by
  k_with "exec For Name Name cons nil" => ((fail_if_success (have z9 := off_LCn)); (k_here; (rename Fr _ _ _ _ => zlF); (with_unfolding_all refine' For_invVF zlF (by exact rfl) (by exact rfl) ?_; k_whole)))
  k_with "exec For Name Call cons nil" => ((fail_if_success (have z9 := off_LCn)); (k_here; (rename Fr _ _ _ _ => zlF); (with_unfolding_all refine' For_invVF zlF (by exact rfl) (by exact rfl) ?_; k_whole)))
  trivial
def C_spec_cnts (w : World) (p : Program) (loose : List Str) (mean : ExcName → Option Value) (mg : Str → Option Value) (mb : Str → Option Value) (news : List (Addr × Obj)) (l : Addr) (vs : List Value) (ks : List Int) (n : Nat) (x : Int) (t1 : Tok) (dp : Nat) (un : Nat) (gd : Option (List Code)) (cn : Str) (cs : Scope) (a : Addr) (ccd : Value) (cl : List (Str × Addr)) (outer : List Env) (A₀ : Around) (base : Heap) (h₀ : Heap) (L : Addr) (m : Str → Option Value) (s : Shared) (Q : Value → Shared → Prop) (E : Value → Shared → Prop) (g' : Heap) (L' : Addr) (h' : Heap) : Prop :=
  ((l, W.listOf vs.toArray n) ∈ news) →
  (IntsAre vs ks) →
  (0 ≤ x) →
  (x ≤ 256) →
  (∀ e ∈ ks, 0 ≤ e ∧ e < x.toNat) →
  RunD w p loose mean mg mb 1 news 225 (isL (tallyF (List.replicate x.toNat 0) ks) news) (Str.ofString "_law_counts") fb33.1 fb33.2 (.ref 224) [(Str.ofString "leavings", .ref l), (Str.ofString "beads", .int x t1)] dp un gd cn cs a ccd cl outer A₀ base h₀ L m s Q E g' L' h'
abbrev V_LCn := (World) × (Program) × (List Str) × (ExcName → Option Value) × (Str → Option Value) × (Str → Option Value) × (List (Addr × Obj)) × (Addr) × (List Value) × (List Int) × (Nat) × (Int) × (Tok) × (Nat) × (Nat) × (Option (List Code)) × (Str) × (Scope) × (Addr) × (Value) × (List (Str × Addr)) × (List Env) × (Around) × (Heap) × (Heap) × (Addr) × (Str → Option Value) × (Shared) × (Value → Shared → Prop) × (Value → Shared → Prop) × (Heap) × (Addr) × (Heap)
def D_spec_cnts (v : V_LCn) : Prop := C_spec_cnts v.1 v.2.1 v.2.2.1 v.2.2.2.1 v.2.2.2.2.1 v.2.2.2.2.2.1 v.2.2.2.2.2.2.1 v.2.2.2.2.2.2.2.1 v.2.2.2.2.2.2.2.2.1 v.2.2.2.2.2.2.2.2.2.1 v.2.2.2.2.2.2.2.2.2.2.1 v.2.2.2.2.2.2.2.2.2.2.2.1 v.2.2.2.2.2.2.2.2.2.2.2.2.1 v.2.2.2.2.2.2.2.2.2.2.2.2.2.1 v.2.2.2.2.2.2.2.2.2.2.2.2.2.2.1 v.2.2.2.2.2.2.2.2.2.2.2.2.2.2.2.1 v.2.2.2.2.2.2.2.2.2.2.2.2.2.2.2.2.1 v.2.2.2.2.2.2.2.2.2.2.2.2.2.2.2.2.2.1 v.2.2.2.2.2.2.2.2.2.2.2.2.2.2.2.2.2.2.1 v.2.2.2.2.2.2.2.2.2.2.2.2.2.2.2.2.2.2.2.1 v.2.2.2.2.2.2.2.2.2.2.2.2.2.2.2.2.2.2.2.2.1 v.2.2.2.2.2.2.2.2.2.2.2.2.2.2.2.2.2.2.2.2.2.1 v.2.2.2.2.2.2.2.2.2.2.2.2.2.2.2.2.2.2.2.2.2.2.1 v.2.2.2.2.2.2.2.2.2.2.2.2.2.2.2.2.2.2.2.2.2.2.2.1 v.2.2.2.2.2.2.2.2.2.2.2.2.2.2.2.2.2.2.2.2.2.2.2.2.1 v.2.2.2.2.2.2.2.2.2.2.2.2.2.2.2.2.2.2.2.2.2.2.2.2.2.1 v.2.2.2.2.2.2.2.2.2.2.2.2.2.2.2.2.2.2.2.2.2.2.2.2.2.2.1 v.2.2.2.2.2.2.2.2.2.2.2.2.2.2.2.2.2.2.2.2.2.2.2.2.2.2.2.1 v.2.2.2.2.2.2.2.2.2.2.2.2.2.2.2.2.2.2.2.2.2.2.2.2.2.2.2.2.1 v.2.2.2.2.2.2.2.2.2.2.2.2.2.2.2.2.2.2.2.2.2.2.2.2.2.2.2.2.2.1 v.2.2.2.2.2.2.2.2.2.2.2.2.2.2.2.2.2.2.2.2.2.2.2.2.2.2.2.2.2.2.1 v.2.2.2.2.2.2.2.2.2.2.2.2.2.2.2.2.2.2.2.2.2.2.2.2.2.2.2.2.2.2.2.1 v.2.2.2.2.2.2.2.2.2.2.2.2.2.2.2.2.2.2.2.2.2.2.2.2.2.2.2.2.2.2.2.2
def VP_LCn (v : V_LCn) : Prop := D_spec_cnts v
theorem ne_LCn : Nonempty V_LCn := ⟨((⟨fun _ _ => 0, { strHash := fun _ => 0, shareClass := fun _ => 0, mergeTok := id, idOf := fun _ => 0, idOfShared := fun _ _ => 0, followText := fun _ => false, idOfImm := fun _ => 0 }⟩ : World), (default : Program), ([] : List Str), (fun _  => none), (fun _  => none), (fun _  => none), ([] : List (Addr × Obj)), (0 : Addr), ([] : List Value), ([] : List Int), (0 : Nat), (0 : Int), (0 : Tok), (0 : Nat), (0 : Nat), (none : Option (List Code)), (Str.empty : Str), (default : Scope), (0 : Addr), (.none : Value), ([] : List (Str × Addr)), ([] : List Env), ({} : Around), ({} : Heap), ({} : Heap), (0 : Addr), (fun _  => none), ({} : Shared), (fun _ _  => True), (fun _ _  => True), ({} : Heap), (0 : Addr), ({} : Heap))⟩
noncomputable def k_LCn : {v : V_LCn // VP_LCn v → ∀ x, VP_LCn x} := Classical.choice (drink ne_LCn VP_LCn)
noncomputable def K_LCn.w : World := k_LCn.1.1
noncomputable def K_LCn.p : Program := k_LCn.1.2.1
noncomputable def K_LCn.loose : List Str := k_LCn.1.2.2.1
noncomputable def K_LCn.mean : ExcName → Option Value := k_LCn.1.2.2.2.1
noncomputable def K_LCn.mg : Str → Option Value := k_LCn.1.2.2.2.2.1
noncomputable def K_LCn.mb : Str → Option Value := k_LCn.1.2.2.2.2.2.1
noncomputable def K_LCn.news : List (Addr × Obj) := k_LCn.1.2.2.2.2.2.2.1
noncomputable def K_LCn.l : Addr := k_LCn.1.2.2.2.2.2.2.2.1
noncomputable def K_LCn.vs : List Value := k_LCn.1.2.2.2.2.2.2.2.2.1
noncomputable def K_LCn.ks : List Int := k_LCn.1.2.2.2.2.2.2.2.2.2.1
noncomputable def K_LCn.n : Nat := k_LCn.1.2.2.2.2.2.2.2.2.2.2.1
noncomputable def K_LCn.x : Int := k_LCn.1.2.2.2.2.2.2.2.2.2.2.2.1
noncomputable def K_LCn.t1 : Tok := k_LCn.1.2.2.2.2.2.2.2.2.2.2.2.2.1
noncomputable def K_LCn.dp : Nat := k_LCn.1.2.2.2.2.2.2.2.2.2.2.2.2.2.1
noncomputable def K_LCn.un : Nat := k_LCn.1.2.2.2.2.2.2.2.2.2.2.2.2.2.2.1
noncomputable def K_LCn.gd : Option (List Code) := k_LCn.1.2.2.2.2.2.2.2.2.2.2.2.2.2.2.2.1
noncomputable def K_LCn.cn : Str := k_LCn.1.2.2.2.2.2.2.2.2.2.2.2.2.2.2.2.2.1
noncomputable def K_LCn.cs : Scope := k_LCn.1.2.2.2.2.2.2.2.2.2.2.2.2.2.2.2.2.2.1
noncomputable def K_LCn.a : Addr := k_LCn.1.2.2.2.2.2.2.2.2.2.2.2.2.2.2.2.2.2.2.1
noncomputable def K_LCn.ccd : Value := k_LCn.1.2.2.2.2.2.2.2.2.2.2.2.2.2.2.2.2.2.2.2.1
noncomputable def K_LCn.cl : List (Str × Addr) := k_LCn.1.2.2.2.2.2.2.2.2.2.2.2.2.2.2.2.2.2.2.2.2.1
noncomputable def K_LCn.outer : List Env := k_LCn.1.2.2.2.2.2.2.2.2.2.2.2.2.2.2.2.2.2.2.2.2.2.1
noncomputable def K_LCn.A₀ : Around := k_LCn.1.2.2.2.2.2.2.2.2.2.2.2.2.2.2.2.2.2.2.2.2.2.2.1
noncomputable def K_LCn.base : Heap := k_LCn.1.2.2.2.2.2.2.2.2.2.2.2.2.2.2.2.2.2.2.2.2.2.2.2.1
noncomputable def K_LCn.h₀ : Heap := k_LCn.1.2.2.2.2.2.2.2.2.2.2.2.2.2.2.2.2.2.2.2.2.2.2.2.2.1
noncomputable def K_LCn.L : Addr := k_LCn.1.2.2.2.2.2.2.2.2.2.2.2.2.2.2.2.2.2.2.2.2.2.2.2.2.2.1
noncomputable def K_LCn.m : Str → Option Value := k_LCn.1.2.2.2.2.2.2.2.2.2.2.2.2.2.2.2.2.2.2.2.2.2.2.2.2.2.2.1
noncomputable def K_LCn.s : Shared := k_LCn.1.2.2.2.2.2.2.2.2.2.2.2.2.2.2.2.2.2.2.2.2.2.2.2.2.2.2.2.1
noncomputable def K_LCn.Q : Value → Shared → Prop := k_LCn.1.2.2.2.2.2.2.2.2.2.2.2.2.2.2.2.2.2.2.2.2.2.2.2.2.2.2.2.2.1
noncomputable def K_LCn.E : Value → Shared → Prop := k_LCn.1.2.2.2.2.2.2.2.2.2.2.2.2.2.2.2.2.2.2.2.2.2.2.2.2.2.2.2.2.2.1
noncomputable def K_LCn.g' : Heap := k_LCn.1.2.2.2.2.2.2.2.2.2.2.2.2.2.2.2.2.2.2.2.2.2.2.2.2.2.2.2.2.2.2.1
noncomputable def K_LCn.L' : Addr := k_LCn.1.2.2.2.2.2.2.2.2.2.2.2.2.2.2.2.2.2.2.2.2.2.2.2.2.2.2.2.2.2.2.2.1
noncomputable def K_LCn.h' : Heap := k_LCn.1.2.2.2.2.2.2.2.2.2.2.2.2.2.2.2.2.2.2.2.2.2.2.2.2.2.2.2.2.2.2.2.2
section
open K_LCn
theorem c_spec_cnts : C_spec_cnts w p loose mean mg mb news l vs ks n x t1 dp un gd cn cs a ccd cl outer A₀ base h₀ L m s Q E g' L' h' := by
  unfold C_spec_cnts RunD
  dsimp only [fb33]
  k_fill
  intro hm hi hx hx' hks B F X N T hk hdp hun hret FG' F' N' B' X' T'
  (try dsimp only)
  (try dsimp only [List.reverse, List.reverseAux, List.lookup] at F')
  (try k_lift B')
  (try k_fold)
  k_steps
  refine Stop.go ?_
  rename (_ ∧ AllLt _ _) => ltD
  obtain ⟨ltD1, ltD2⟩ := ltD
  have ltD3 := ktn_ltOf ltD2
  rename Fr _ _ _ _ => FC
  rename News _ _ _ _ => NC
  refine' loop_list (σ := List Int × List Value × Nat) (vs := vs) (n := n) (fun c => (_, W.listOf c.2.1.toArray c.2.2) :: _ :: news) (fun c => []) [] (fun rest c => CntW x.toNat (tallyF (List.replicate x.toNat 0) ks) rest c.2.1 c.1) (List.replicate x.toNat 0, _, _) rfl FC NC (fun _ => .tail _ (.tail _ hm)) rfl rfl ?hk ?hp ?_ ?_
  (case hk => exact fun p hp => nomatch hp)
  (case hp => exact ⟨⟨ks, hi, hks, rfl⟩, ints_zeros _ _, List.length_replicate⟩)
  · rintro I hI v r ⟨cs1, vc, nc⟩ u it h8 tk8 hW F8 N8 hne
    dsimp only at hW
    obtain ⟨k, tv, rfl, hV⟩ := hW.next
    dsimp only [kstB] at F8 N8
    have hv0 := hV.lo
    have hv1 := hV.hi
    have hv2 := hV.is
    have hv3 := hV.len
    k_steps
    refine' ksa_set (vs := vc) (ns := cs1) (by k_asm) (by k_asm) ?U hv2 hv0 (by omega) (by omega) ?_
    (case U => exact Upd.tail (Ne.symm (List.forall_mem_cons.mp hne).1) (Upd.head (List.forall_mem_cons.mpr ⟨Nat.ne_of_lt ltD1, fun p hp => Nat.ne_of_lt (ltD3 p hp)⟩)))
    intro h9 F9 N9 hi9 hl9 hs9
    (try dsimp only)
    k_steps
    dsimp only [LPost]
    refine' LEnd.mk (_, _, nc) (by k_asm) N9 ?hn ?ho ?hk ?hr (hV.on _ hi9)
    (case ho => exact List.forall_mem_cons.mpr ⟨(List.forall_mem_cons.mp hne).1, (List.forall_mem_cons.mp hne).2⟩)
    (case hn => exact fun _ h => h)
    (case hk => exact fun p hp => nomatch hp)
    (case hr => walk_at "my:same")
  · rintro ⟨cs1, vc, nc⟩ u h8 tk8 hW F8 N8
    dsimp only [kstB] at F8 N8
    dsimp only at hW
    have e := CntW.last hW
    have hvs := hW.two
    k_steps
    refine' ret_isL ?e0 ?e1 ?e2 ?e3 ?e4 ?e5 ?e6 ?e7
    (case e0 => assumption)
    (case e1 => k_asm)
    (case e2 => k_asm)
    (case e3 => exact List.Mem.head _)
    (case e4 => exact fun _ h => List.Mem.tail _ (List.Mem.tail _ h))
    (case e5 => exact hvs)
    (case e6 => exact e)
    (case e7 => exact ltD3)
end
theorem all_LCn : ∀ v, VP_LCn v := k_LCn.2 c_spec_cnts
section
variable (w : World) (p : Program) (loose : List Str) (mean : ExcName → Option Value) (mg mb : Str → Option Value)
theorem spec_cnts (news : List (Addr × Obj)) (l : Addr) (vs : List Value) (ks : List Int) (n : Nat) (hm : (l, W.listOf vs.toArray n) ∈ news) (hi : IntsAre vs ks) (x : Int) (t1 : Tok) (hx : 0 ≤ x) (hx' : x ≤ 256) (hks : ∀ e ∈ ks, 0 ≤ e ∧ e < x.toNat) :
    Spec w p loose mean mg mb 1 news 225 [.ref l, .int x t1] [] (isL (tallyF (List.replicate x.toNat 0) ks) news) := by
  refine' spec_body (qual := Str.ofString "_law_counts") (body := fb33.1) (scope := fb33.2) (cdv := .ref 224) (binds := [(Str.ofString "leavings", .ref l), (Str.ofString "beads", .int x t1)]) (fun z0 z1 z2 z3 z4 z5 z6 z7 z8 z9 z10 z11 z12 z13 z14 z15 z16 z17 z18 z19 => (all_LCn (w, p, loose, mean, mg, mb, news, l, vs, ks, n, x, t1, z0, z1, z2, z3, z4, z5, z6, z7, z8, z9, z10, z11, z12, z13, z14, z15, z16, z17, z18, z19)) hm hi hx hx' hks) ?ho ?hcd ?h1 ?hb ?hl ?c1 ?c2 ?c3 ?hc
  (case c1 => exact rfl); (case c2 => exact rfl); (case c3 => exact rfl)
  (case ho => k_is)
  (case hcd => k_is)
  (case h1 => omega)
  (case hb => exact fun _ _ _ _ _ _ => BindsTo.of_eq rfl)
  (case hl => exact locs rfl)
  (case hc => decide)
end
end
end
theorem off_LCn : True := trivial
-- LS3
theorem again_LS3 : True := by w_top off; (try walk1); trivial
section
theorem Spec.mono {w : World} {p : Program} {loose : List Str} {mean : ExcName → Option Value} {mg mb : Str → Option Value} {need : Nat} {news : List (Addr × Obj)} {f : Addr} {vs : List Value} {kw : List (Str × Value)} {P P' : Value → List (Addr × Obj) → Prop}
    (S : Spec w p loose mean mg mb need news f vs kw P) (h : ∀ r nw, P r nw → P' r nw) : Spec w p loose mean mg mb need news f vs kw P' := by
  unfold Spec at S ⊢
  intro dp un gd cn cs a ccd cl outer A₀ base h₀ L m s Q E B F X N T hk hdp hun hret
  exact S _ _ _ _ _ _ _ _ _ _ _ _ _ _ _ _ _ B F X N T hk hdp hun fun r nw h' tk' F' N' hP => hret r nw h' tk' F' N' (h r nw hP)
theorem Spec.needs {w : World} {p : Program} {loose : List Str} {mean : ExcName → Option Value} {mg mb : Str → Option Value} {need need' : Nat} {news : List (Addr × Obj)} {f : Addr} {vs : List Value} {kw : List (Str × Value)} {P : Value → List (Addr × Obj) → Prop}
    (S : Spec w p loose mean mg mb need news f vs kw P) (h : need ≤ need') : Spec w p loose mean mg mb need' news f vs kw P := by
  unfold Spec at S ⊢
  intro dp un gd cn cs a ccd cl outer A₀ base h₀ L m s Q E B F X N T hk hdp hun hret
  exact S _ _ _ _ _ _ _ _ _ _ _ _ _ _ _ _ _ B F X N T hk (by omega) (by omega) hret
def isV (v : Value) (news : List (Addr × Obj)) (r : Value) (nw : List (Addr × Obj)) : Prop := r = v ∧ nw = news
theorem Spec.useV {w : World} {p : Program} {loose : List Str} {mean : ExcName → Option Value} {mg mb : Str → Option Value} {need : Nat} {news : List (Addr × Obj)} {f : Addr} {vs : List Value} {kw : List (Str × Value)} {v : Value}
    {dp un : Nat} {gd : Option (List Code)} {cn : Str} {cs : Scope} {a : Addr} {ccd : Value} {cl : List (Str × Addr)} {outer : List Env} {A₀ : Around} {base h₀ : Heap} {L : Addr} {m : Str → Option Value} {s : Shared} {Q E : Value → Shared → Prop}
    (S : Spec w p loose mean mg mb need news f vs kw (isV v news))
    (B : Below A₀ base outer h₀) (F : Fr h₀ L s.heap m) (X : (hd.heap_39 w.params).In h₀) (N : News h₀ L s.heap news) (T : Top p loose mean mg mb h₀) (hk : cs.kind = .function) (hd : dp + need < recursionLimit) (hu : un + 8 * need < cLine)
    (ret : ∀ h' tk', s.toks ≤ tk' → Fr h₀ L h' m → News h₀ L h' news → Q v { s with heap := h', toks := tk' }) :
    wpAny (model PySem.Challenge.rw_tl0033_01.row.prog w) (ktrTop dp un gd cn cs L a ccd cl outer) (call (.ref f) vs kw) Q E s :=
  wpAny_toks (S.use B F X N T hk hd hu fun r news' h' tk' F' N' P hle => by
    obtain ⟨rfl, rfl⟩ := P
    exact ret h' tk' hle F' N')
theorem Spec.V_I {w : World} {p : Program} {loose : List Str} {mean : ExcName → Option Value} {mg mb : Str → Option Value} {need : Nat} {news : List (Addr × Obj)} {f : Addr} {vs : List Value} {kw : List (Str × Value)} {k : Int} {t : Tok}
    (S : Spec w p loose mean mg mb need news f vs kw (isV (.int k t) news)) : Spec w p loose mean mg mb need news f vs kw (isI k news) := S.mono fun r nw h => ⟨⟨t, h.1⟩, h.2⟩
section
variable (w : World) (p : Program) (loose : List Str) (mean : ExcName → Option Value) (mg mb : Str → Option Value)
theorem spec_modT (news : List (Addr × Obj)) (x y : Int) (t u : Tok) (hy : y ≠ 0) (dp un : Nat) (gd : Option (List Code)) (cn : Str) (cs : Scope) (a : Addr) (ccd : Value) (cl : List (Str × Addr)) (outer : List Env) (A₀ : Around) (base h₀ : Heap) (L : Addr) (m : Str → Option Value) (s : Shared) (Q E : Value → Shared → Prop) :
    Below A₀ base outer h₀ → Fr h₀ L s.heap m → (hd.heap_39 w.params).In h₀ → News h₀ L s.heap news → Top p loose mean mg mb h₀ → cs.kind = .function → dp + 1 < recursionLimit → un + 8 * 1 < cLine →
    (∀ t h' tk', s.toks < t → t < tk' → Fr h₀ L h' m → News h₀ L h' news → Q (.int (x.fmod y) t) { s with heap := h', toks := tk' }) →
    wpAny (model PySem.Challenge.rw_tl0033_01.row.prog w) (ktrTop dp un gd cn cs L a ccd cl outer) (call (.ref 127) [.int x t, .int y u]) Q E s := by
  k_fill
  intro B F X N T hk hdp hun hret
  refine wpAny_call ?_
  k_dflt (refine' code_def (binds := [(Str.ofString "a", .int x t), (Str.ofString "b", .int y u)]) ?k1 ?k2 ?k3 ?k4 ?k5 ?kA ?kF ?kK ?k6 ?k7 ?k8 ?k9 ?kB ?_ ?c2 ?c3 ?c4 ?c5; walk_at "my:enter")
  generalize htk : s.toks + List.length _ = tk0
  simp only [List.length_cons, List.length_nil] at htk
  k_steps
  refine hret _ _ _ ?_ ?_ (by k_asm) (by k_asm)
  · (try dsimp only); omega
  · (try dsimp only); omega
theorem lay_23 : True := by
  k_with "subscriptTail" => ((fail_if_success (have z9 := off_LS3)); (refine stop_here ?_))
  trivial
theorem spec_get0V (news : List (Addr × Obj)) (l : Addr) (v0 v1 : Value) (n : Nat) (hm : (l, W.listOf [v0, v1].toArray n) ∈ news) (t3 : Tok) :
    Spec w p loose mean mg mb 1 news 183 [.ref l, .int 0 t3] [] (isV v0 news) := by
  unfold Spec
  k_fill
  intro dp un gd cn cs a ccd cl outer A₀ base h₀ L m s Q E B F X N T hk hdp hun hret
  refine wpAny_call ?_
  k_dflt (refine' code_def (binds := [(Str.ofString "a", .ref l), (Str.ofString "b", .int 0 t3)]) ?k1 ?k2 ?k3 ?k4 ?k5 ?kA ?kF ?kK ?k6 ?k7 ?k8 ?k9 ?kB ?_ ?c2 ?c3 ?c4 ?c5; walk_at "my:enter")
  k_steps
  refine Stop.go ?_
  refine sub_at (by k_asm) hm (by decide) (by show (0 : Int) < 2; decide) (by decide) ?_
  k_steps
  exact hret _ _ _ _ (by k_asm) (by k_asm) ⟨rfl, rfl⟩
theorem spec_get1V (news : List (Addr × Obj)) (l : Addr) (v0 v1 : Value) (n : Nat) (hm : (l, W.listOf [v0, v1].toArray n) ∈ news) (t3 : Tok) :
    Spec w p loose mean mg mb 1 news 183 [.ref l, .int 1 t3] [] (isV v1 news) := by
  unfold Spec
  k_fill
  intro dp un gd cn cs a ccd cl outer A₀ base h₀ L m s Q E B F X N T hk hdp hun hret
  refine wpAny_call ?_
  k_dflt (refine' code_def (binds := [(Str.ofString "a", .ref l), (Str.ofString "b", .int 1 t3)]) ?k1 ?k2 ?k3 ?k4 ?k5 ?kA ?kF ?kK ?k6 ?k7 ?k8 ?k9 ?kB ?_ ?c2 ?c3 ?c4 ?c5; walk_at "my:enter")
  k_steps
  refine Stop.go ?_
  refine sub_at (by k_asm) hm (by decide) (by show (1 : Int) < 2; decide) (by decide) ?_
  k_steps
  exact hret _ _ _ _ (by k_asm) (by k_asm) ⟨rfl, rfl⟩
theorem lay_24 : True := by
  k_with "call ref" => ((fail_if_success (have z9 := off_LS3)); (refine stop_here ?_))
  trivial
theorem spec_headV (news : List (Addr × Obj)) (l : Addr) (v0 v1 : Value) (n : Nat) (hm : (l, W.listOf [v0, v1].toArray n) ∈ news) :
    Spec w p loose mean mg mb 2 news 190 [.ref l] [] (isV v0 news) := by
  unfold Spec
  k_fill
  intro dp un gd cn cs a ccd cl outer A₀ base h₀ L m s Q E B F X N T hk hdp hun hret
  refine wpAny_call ?_
  k_dflt (refine' code_def (binds := [(Str.ofString "pair", .ref l)]) ?k1 ?k2 ?k3 ?k4 ?k5 ?kA ?kF ?kK ?k6 ?k7 ?k8 ?k9 ?kB ?_ ?c2 ?c3 ?c4 ?c5; walk_at "my:enter")
  k_steps
  refine Stop.go ?_
  k_dflt (refine' Spec.useV (spec_get0V _ _ _ _ _ _ _ _ _ _ _ hm _) ?k1 ?k2 ?k3 ?k4 ?k5 ?kK ?kd ?ku ?_)
  walk_at "my:use"
  intro h9 tk9 l9 F9 N9
  (try dsimp only)
  k_steps
  exact hret _ _ _ _ (by k_asm) (by k_asm) ⟨rfl, rfl⟩
theorem spec_tailV (news : List (Addr × Obj)) (l : Addr) (v0 v1 : Value) (n : Nat) (hm : (l, W.listOf [v0, v1].toArray n) ∈ news) :
    Spec w p loose mean mg mb 2 news 197 [.ref l] [] (isV v1 news) := by
  unfold Spec
  k_fill
  intro dp un gd cn cs a ccd cl outer A₀ base h₀ L m s Q E B F X N T hk hdp hun hret
  refine wpAny_call ?_
  k_dflt (refine' code_def (binds := [(Str.ofString "pair", .ref l)]) ?k1 ?k2 ?k3 ?k4 ?k5 ?kA ?kF ?kK ?k6 ?k7 ?k8 ?k9 ?kB ?_ ?c2 ?c3 ?c4 ?c5; walk_at "my:enter")
  k_steps
  refine Stop.go ?_
  k_dflt (refine' Spec.useV (spec_get1V _ _ _ _ _ _ _ _ _ _ _ hm _) ?k1 ?k2 ?k3 ?k4 ?k5 ?kK ?kd ?ku ?_)
  walk_at "my:use"
  intro h9 tk9 l9 F9 N9
  (try dsimp only)
  k_steps
  exact hret _ _ _ _ (by k_asm) (by k_asm) ⟨rfl, rfl⟩
theorem key_head (news : List (Addr × Obj)) : KeyFn w news 190 := by
  unfold KeyFn
  k_fill
  intro h₀ h L m X F N
  exact ⟨_, _, _, _, F.keep _ _ (X _ _ (by k_dflt k_is))⟩
theorem key_tail (news : List (Addr × Obj)) : KeyFn w news 197 := by
  unfold KeyFn
  k_fill
  intro h₀ h L m X F N
  exact ⟨_, _, _, _, F.keep _ _ (X _ _ (by k_dflt k_is))⟩
end
end
theorem off_LS3 : True := trivial
-- LLT
theorem again_LLT : True := by w_top off; (try walk1); trivial
section
def LoopT (prog : Program) (w : World) (A : Around) (env : Env) (x : Str) (px : Pos) (body : List Stmt) (Q : Flow → Shared → Prop) (E : Value → Shared → Prop) (it : Value) (s₂ : Shared) : Prop :=
  ∃ (Inv : Nat → Shared → Prop) (n : Nat), Inv n s₂ ∧ ∀ n s, Inv n s → wpAny (model prog w) A (pyNext it) (fun r s₁ => match r with
    | none => Q .next s₁
    | some v => wpAny (model prog w) A (assign (.Name x px) env v) (fun _ s₂ => wpAny (model prog w) A (execs body env) (fun f s₃ => match f with
        | .next | .cont => ∃ m, m < n ∧ Inv m s₃
        | .brk => Q .next s₃
        | .ret v => Q (.ret v) s₃) E s₂) E s₁) E s
theorem For_T {prog : Program} {w : World} {A : Around} {s : Shared} {env : Env} {E : Value → Shared → Prop} {Q : Flow → Shared → Prop} {x : Str} {px pos : Pos} {iter : Expr} {body : List Stmt}
    (h : wpAny (model prog w) A (eval iter env) (fun xv s₁ => wpAny (model prog w) A (pyIter xv) (fun it s₂ => LoopT prog w A env x px body Q E it s₂) E s₁) E s)
    (hs : ∀ x, foldedSetIterable iter env x = pure x := by intro _; rfl)
    (hE : PassesOwn (model prog w) A env E := by passes_own) :
    wpAny (model prog w) A (exec (.For (.Name x px) iter body [] pos) env) Q E s := by
  refine wpAny_For (wpAny_mono h (fun xv s₁ h₁ => wpAny_mono h₁ (fun it s₂ h₂ => ?_) fun _ _ e => e) fun _ _ e => e) hs
  obtain ⟨Inv, n, h0, turn⟩ := h₂
  refine codeAny_forLoop (R := fun r s' => match r with | .ok f => Q f s' | .error e => cameBackBy (model prog w) A env E e s') Inv (fun k s' hI => ?_) n h0
  refine wpAny_passesOwn hE (wpAny_mono (turn k s' hI) (fun r s₁ h₁ => ?_) fun _ _ e => e)
  cases r with
  | none => exact wpAny_execs_nil h₁
  | some v =>
    refine wpAny_passesOwn hE (wpAny_mono h₁ (fun _ s₂ h₂ => ?_) fun _ _ e => e)
    exact wpAny_passesOwn hE (wpAny_mono h₂ (fun f s₃ h₃ => by cases f <;> exact h₃) fun _ _ e => e)
structure LEndW {σ : Type} (h₀ : Heap) (L : Addr) (stored : List Str) (m₀ : Str → Option Value) (Led : σ → List (Addr × Obj)) (ps : σ → List (Str × Value)) (P : σ → Nat → Prop) (I : Addr) (it : Obj) (s₁ s₂ : Shared) (c' : σ) (h' : Heap) (tk : Nat) (m' : Str → Option Value) (nw : List (Addr × Obj)) : Prop where
  e : s₂ = { s₁ with heap := h', toks := tk }
  F : Fr h₀ L h' m'
  N : News h₀ L h' nw
  sub : ∀ p ∈ (I, it) :: Led c', p ∈ nw
  off : ∀ p ∈ Led c', p.1 ≠ I
  hk : ∀ p ∈ ps c', m' p.1 = some p.2
  hr : ∀ z, (∀ p ∈ ps c', z ≠ p.1) → stored.contains z = false → m' z = m₀ z
  hp : P c' tk
def LEndT {σ : Type} (h₀ : Heap) (L : Addr) (stored : List Str) (m₀ : Str → Option Value) (Led : σ → List (Addr × Obj)) (ps : σ → List (Str × Value)) (P : σ → Nat → Prop) (I : Addr) (it : Obj) (s₁ s₂ : Shared) : Prop :=
  ∃ c' h' tk m' nw, LEndW h₀ L stored m₀ Led ps P I it s₁ s₂ c' h' tk m' nw
def LPostT {σ : Type} (h₀ : Heap) (L : Addr) (stored : List Str) (m₀ : Str → Option Value) (Led : σ → List (Addr × Obj)) (ps : σ → List (Str × Value)) (P : σ → Nat → Prop) (I : Addr) (it : Obj) (s₁ : Shared) (Q : Flow → Shared → Prop) (f : Flow) (s₂ : Shared) : Prop :=
  match f with
  | .ret v => Q (.ret v) s₂
  | .brk => Q .next s₂
  | _ => LEndT h₀ L stored m₀ Led ps P I it s₁ s₂
theorem LEndT.mk {σ : Type} {h₀ : Heap} {L : Addr} {stored : List Str} {m₀ : Str → Option Value} {Led : σ → List (Addr × Obj)} {ps : σ → List (Str × Value)} {P : σ → Nat → Prop} {I : Addr} {it : Obj} {s₁ : Shared} {h' : Heap} {tk : Nat} {m' : Str → Option Value} {nw : List (Addr × Obj)} (c' : σ)
    (F : Fr h₀ L h' m') (N : News h₀ L h' nw) (hn : ∀ p ∈ (I, it) :: Led c', p ∈ nw) (ho : ∀ p ∈ Led c', p.1 ≠ I) (hk : ∀ p ∈ ps c', m' p.1 = some p.2) (hr : ∀ z, (∀ p ∈ ps c', z ≠ p.1) → stored.contains z = false → m' z = m₀ z) (hp : P c' tk) :
    LEndT h₀ L stored m₀ Led ps P I it s₁ { s₁ with heap := h', toks := tk } := ⟨c', h', tk, m', nw, rfl, F, N, hn, ho, hk, hr, hp⟩
section
variable {prog : Program} {w : World} {A : Around} {E : Value → Shared → Prop} {s : Shared} {env : Env} {h₀ : Heap} {x : Str} {px : Pos} {body : List Stmt} {Q : Flow → Shared → Prop}
theorem loop_rangeT {σ : Type} {L r : Addr} {a₀ b₀ : Int} {t₀ u₀ v₀ : Tok} (n : Nat) {m₀ : Str → Option Value} (Led : σ → List (Addr × Obj)) (ps : σ → List (Str × Value)) (stored : List Str) (P : Nat → σ → Nat → Prop) (c₀ : σ)
    (hh : A.handled = none) (hr : IsRange s.heap r a₀ b₀ 1 t₀ u₀ v₀) (hsmall : Builtin.Range.small a₀ b₀ 1 = true) (hn : Builtin.Range.rangeSize a₀ b₀ 1 = (n : Int)) (F : Fr h₀ L s.heap m₀) (N : News h₀ L s.heap (Led c₀)) (hk : ∀ p ∈ ps c₀, m₀ p.1 = some p.2) (hp : P n c₀ s.toks)
    (turn : ∀ I, (∀ p ∈ Led c₀, p.1 < I) → ∀ i c t m (it : Obj) h, i < n → P (n - i) c t → Fr h₀ L h m → (∀ p ∈ ps c, m p.1 = some p.2) → (∀ z, (∀ p ∈ ps c, z ≠ p.1) → stored.contains z = false → m z = m₀ z) → News h₀ L h ((I, it) :: Led c) → (∀ p ∈ Led c, p.1 ≠ I) →
      wpAny (model prog w) A (assign (.Name x px) env (.int (a₀ + (i : Int)) t)) (fun _ s₁ => wpAny (model prog w) A (execs body env) (LPostT h₀ L stored m₀ Led ps (P (n - (i + 1))) I it { s with heap := h, toks := t + 1 } Q) E s₁) E { s with heap := h, toks := t + 1 })
    (done : ∀ c m h tk, P 0 c tk → Fr h₀ L h m → (∀ p ∈ ps c, m p.1 = some p.2) → (∀ z, (∀ p ∈ ps c, z ≠ p.1) → stored.contains z = false → m z = m₀ z) → News h₀ L h (Led c) → Q .next { s with heap := h, toks := tk }) :
    wpAny (model prog w) A (pyIter (.ref r)) (fun it s₂ => LoopT prog w A env x px body Q E it s₂) E s := by
  refine wpAny_pyIter_range hr hsmall ?_
  have hI : ∀ p ∈ Led c₀, p.1 < s.heap.objs.size := fun p hp => Heap.lt_size (N p hp).1
  have nI : h₀.get? s.heap.objs.size = none := next_is_new F
  have nL : L ≠ s.heap.objs.size := Nat.ne_of_lt F.ns.lt
  refine ⟨fun k s' => ∃ i c h tk m, i ≤ n ∧ k = n + 1 - i ∧ LEndW h₀ L stored m₀ Led ps (P (n - i)) s.heap.objs.size (itR (a₀ + (i : Int)) ((n : Int) - (i : Int))) s s' c h tk m ((s.heap.objs.size, itR (a₀ + (i : Int)) ((n : Int) - (i : Int))) :: Led c), n + 1, ?_, ?_⟩
  · refine ⟨0, c₀, _, _, m₀, Nat.zero_le _, rfl, rfl, F.push _, fun p hp => ?_, fun _ q => q, fun p hp => Nat.ne_of_lt (hI p hp), hk, fun _ _ _ => rfl, hp⟩
    rcases List.mem_cons.mp hp with rfl | hp
    · refine ⟨?_, Ne.symm nL, nI⟩
      rw [hn]
      have z := Heap.get?_push_size s.heap (o := itR (a₀ + ((0 : Nat) : Int)) ((n : Int) - ((0 : Nat) : Int))) rfl
      simpa [itR] using z
    · exact ⟨Heap.get?_push_of_some _ (N p hp).1, (N p hp).2⟩
  · rintro k s' ⟨i, c, h, tk, m, hi, rfl, rfl, F', N', -, off, hk', hr', hP⟩
    have hit : IsRangeIter h s.heap.objs.size (a₀ + (i : Int)) ((n : Int) - (i : Int)) 1 := (N' _ List.mem_cons_self).1
    by_cases hlt : i < n
    · refine wpAny_pyNext_range_item hit (by omega) fun h₁ hit₁ hs₁ => ?_
      have up : ∀ b o, b ∉ [s.heap.objs.size] → h.get? b = some o → h₁.get? b = some o := fun b o hb e => hs₁.extBut b o (fun q => hb (List.mem_singleton.mpr q)) e
      have N₁ : News h₀ L h₁ (Led c) := LCg.news_but (fun p hp => N' p (List.mem_cons_of_mem _ hp)) up off
      have N₂ : News h₀ L h₁ ((s.heap.objs.size, itR (a₀ + ((i + 1 : Nat) : Int)) ((n : Int) - ((i + 1 : Nat) : Int))) :: Led c) := fun p hp => by
        rcases List.mem_cons.mp hp with rfl | hp
        · refine ⟨?_, Ne.symm nL, nI⟩
          have e1 : a₀ + ((i + 1 : Nat) : Int) = a₀ + (i : Int) + 1 := by omega
          have e2 : (n : Int) - ((i + 1 : Nat) : Int) = (n : Int) - (i : Int) - 1 := by omega
          rw [e1, e2]
          exact hit₁
        · exact N₁ p hp
      refine wpAny_mono (turn s.heap.objs.size hI i c tk m _ h₁ hlt hP (LCg.fr_but F' up nL nI) hk' hr' N₂ off) (fun _ s₁ q₁ => wpAny_mono q₁ (fun f s₂ h₂ => ?_) fun _ _ e => e) fun _ _ e => e
      have fin : LEndT h₀ L stored m₀ Led ps (P (n - (i + 1))) s.heap.objs.size (itR (a₀ + ((i + 1 : Nat) : Int)) ((n : Int) - ((i + 1 : Nat) : Int))) { s with heap := h₁, toks := tk + 1 } s₂ → ∃ m, m < n + 1 - i ∧ ∃ i c h tk m₁, i ≤ n ∧ m = n + 1 - i ∧ LEndW h₀ L stored m₀ Led ps (P (n - i)) s.heap.objs.size (itR (a₀ + (i : Int)) ((n : Int) - (i : Int))) s s₂ c h tk m₁ ((s.heap.objs.size, itR (a₀ + (i : Int)) ((n : Int) - (i : Int))) :: Led c) := by
        rintro ⟨c', h', tk', m', nw, W⟩
        exact ⟨n + 1 - (i + 1), by omega, i + 1, c', h', tk', m', hlt, rfl, W.e, W.F, fun p hp => W.N p (W.sub p hp), fun _ q => q, W.off, W.hk, W.hr, W.hp⟩
      cases f with
      | ret v => exact h₂
      | brk => exact h₂
      | next => exact fin h₂
      | cont => exact fin h₂
    · obtain rfl : i = n := Nat.le_antisymm hi (Nat.not_lt.mp hlt)
      refine wpAny_pyNext_range_end hh hit (by omega) fun h₁ he₁ => ?_
      have up : ∀ b o, b ∉ [s.heap.objs.size] → h.get? b = some o → h₁.get? b = some o := fun b o hb e => he₁ b o (fun q => hb (List.mem_singleton.mpr q)) e
      exact done c m h₁ tk (by rw [Nat.sub_self] at hP; exact hP) (LCg.fr_but F' up nL nI) hk' hr' (LCg.news_but (fun p hp => N' p (List.mem_cons_of_mem _ hp)) up off)
theorem loop_listT {σ : Type} {L ax : Addr} {lo : Obj} {vs : List Value} {n : Nat} {m₀ : Str → Option Value} (Led : σ → List (Addr × Obj)) (ps : σ → List (Str × Value)) (stored : List Str) (P : List Value → σ → Nat → Prop) (c₀ : σ)
    (hh : A.handled = none) (F : Fr h₀ L s.heap m₀) (N : News h₀ L s.heap (Led c₀)) (hm : ∀ c, (ax, lo) ∈ Led c) (hc : lo.cls = .type "list") (hd : lo.data = .seq vs.toArray n) (hk : ∀ p ∈ ps c₀, m₀ p.1 = some p.2) (hp : P vs c₀ s.toks)
    (turn : ∀ I, (∀ p ∈ Led c₀, p.1 < I) → ∀ v r c t m (it : Obj) h, P (v :: r) c t → Fr h₀ L h m → (∀ p ∈ ps c, m p.1 = some p.2) → (∀ z, (∀ p ∈ ps c, z ≠ p.1) → stored.contains z = false → m z = m₀ z) → News h₀ L h ((I, it) :: Led c) → (∀ p ∈ Led c, p.1 ≠ I) →
      wpAny (model prog w) A (assign (.Name x px) env v) (fun _ s₁ => wpAny (model prog w) A (execs body env) (LPostT h₀ L stored m₀ Led ps (P r) I it { s with heap := h, toks := t } Q) E s₁) E { s with heap := h, toks := t })
    (done : ∀ c m h tk, P [] c tk → Fr h₀ L h m → (∀ p ∈ ps c, m p.1 = some p.2) → (∀ z, (∀ p ∈ ps c, z ≠ p.1) → stored.contains z = false → m z = m₀ z) → News h₀ L h (Led c) → Q .next { s with heap := h, toks := tk }) :
    wpAny (model prog w) A (pyIter (.ref ax)) (fun it s₂ => LoopT prog w A env x px body Q E it s₂) E s := by
  have isl : ∀ {h : Heap} {c : σ}, News h₀ L h (Led c) → h.IsList ax vs.toArray := fun {h c} N => ⟨lo, (N _ (hm c)).1, hc, n, hd⟩
  refine wpAny_pyIter_list (isl N) ?_
  have hI : ∀ p ∈ Led c₀, p.1 < s.heap.objs.size := fun p hp => Heap.lt_size (N p hp).1
  have nI : h₀.get? s.heap.objs.size = none := next_is_new F
  have nL : L ≠ s.heap.objs.size := Nat.ne_of_lt F.ns.lt
  have nax : ax ≠ s.heap.objs.size := Nat.ne_of_lt (hI _ (hm c₀))
  refine ⟨fun k s' => ∃ i c h tk m it, i ≤ vs.length ∧ k = vs.length + 1 - i ∧ h.IsListIter s.heap.objs.size ax i ∧ LEndW h₀ L stored m₀ Led ps (P (vs.drop i)) s.heap.objs.size it s s' c h tk m ((s.heap.objs.size, it) :: Led c), vs.length + 1, ?_, ?_⟩
  · refine ⟨0, c₀, _, _, m₀, { cls := .type "list_iterator", data := .fields #[.ref ax, .int 0 0] }, Nat.zero_le _, rfl, ⟨_, Heap.get?_push_size _ rfl, rfl, rfl⟩, rfl, F.push _, fun p hp => ?_, fun _ q => q, fun p hp => Nat.ne_of_lt (hI p hp), hk, fun _ _ _ => rfl, hp⟩
    rcases List.mem_cons.mp hp with rfl | hp
    · exact ⟨Heap.get?_push_size _ rfl, Ne.symm nL, nI⟩
    · exact ⟨Heap.get?_push_of_some _ (N p hp).1, (N p hp).2⟩
  · rintro k s' ⟨i, c, h, tk, m, it, hi, rfl, hit, rfl, F', N', -, off, hk', hr', hP⟩
    have N0 : News h₀ L h (Led c) := fun p hp => N' p (List.mem_cons_of_mem _ hp)
    by_cases hlt : i < vs.length
    · have hget : vs.toArray[i]? = some vs[i] := by rw [List.getElem?_toArray, List.getElem?_eq_getElem hlt]
      rw [List.drop_eq_getElem_cons hlt] at hP
      refine wpAny_pyNext_list_item hit (isl N0) hget fun h₁ hit₁ hs₁ => ?_
      have up : ∀ b o, b ∉ [s.heap.objs.size] → h.get? b = some o → h₁.get? b = some o := fun b o hb e => hs₁.extBut b o (fun q => hb (List.mem_singleton.mpr q)) e
      have N₁ : News h₀ L h₁ (Led c) := LCg.news_but N0 up off
      obtain ⟨it₁, hg₁, hq₁⟩ := id hit₁
      have N₂ : News h₀ L h₁ ((s.heap.objs.size, it₁) :: Led c) := fun p hp => by
        rcases List.mem_cons.mp hp with rfl | hp
        · exact ⟨hg₁, Ne.symm nL, nI⟩
        · exact N₁ p hp
      refine wpAny_mono (turn s.heap.objs.size hI _ _ c tk m _ h₁ hP (LCg.fr_but F' up nL nI) hk' hr' N₂ off) (fun _ s₁ q₁ => wpAny_mono q₁ (fun f s₂ h₂ => ?_) fun _ _ e => e) fun _ _ e => e
      have fin : LEndT h₀ L stored m₀ Led ps (P (vs.drop (i + 1))) s.heap.objs.size it₁ { s with heap := h₁, toks := tk } s₂ → ∃ m, m < vs.length + 1 - i ∧ ∃ i c h tk m₁ it, i ≤ vs.length ∧ m = vs.length + 1 - i ∧ h.IsListIter s.heap.objs.size ax i ∧ LEndW h₀ L stored m₀ Led ps (P (vs.drop i)) s.heap.objs.size it s s₂ c h tk m₁ ((s.heap.objs.size, it) :: Led c) := by
        rintro ⟨c', h', tk', m', nw, W⟩
        exact ⟨vs.length + 1 - (i + 1), by omega, i + 1, c', h', tk', m', it₁, hlt, rfl, ⟨it₁, (W.N _ (W.sub _ List.mem_cons_self)).1, hq₁⟩, W.e, W.F, fun p hp => W.N p (W.sub p hp), fun _ q => q, W.off, W.hk, W.hr, W.hp⟩
      cases f with
      | ret v => exact h₂
      | brk => exact h₂
      | next => exact fin h₂
      | cont => exact fin h₂
    · obtain rfl : i = vs.length := Nat.le_antisymm hi (Nat.not_lt.mp hlt)
      refine wpAny_pyNext_list_end hh hit (isl N0) (by rw [List.getElem?_toArray, List.getElem?_eq_none (Nat.le_refl _)]) fun h₁ he₁ => ?_
      have up : ∀ b o, b ∉ [s.heap.objs.size] → h.get? b = some o → h₁.get? b = some o := fun b o hb e => he₁ b o (fun q => hb (List.mem_singleton.mpr q)) e
      exact done c m h₁ tk (by rw [List.drop_length] at hP; exact hP) (LCg.fr_but F' up nL nI) hk' hr' (LCg.news_but N0 up off)
end
end
-- LCT
theorem again_LCT : True := by w_top off; (try walk1); trivial
section
def CEnd (h₀ : Heap) (L : Addr) (m : Str → Option Value) (s₁ : Shared) (led : List (Addr × Obj)) (P : List Value → Nat → Prop) (ys : List Value) (s₂ : Shared) : Prop :=
  ∃ h' tk', s₂ = { s₁ with heap := h', toks := tk' } ∧ Fr h₀ L h' m ∧ News h₀ L h' led ∧ P ys tk'
theorem CEnd.mk {h₀ h' : Heap} {L : Addr} {m : Str → Option Value} {s₁ : Shared} {led nw : List (Addr × Obj)} {P : List Value → Nat → Prop} {ys : List Value} {tk' : Nat} (F : Fr h₀ L h' m) (N : News h₀ L h' nw) (sub : ∀ p ∈ led, p ∈ nw) (hp : P ys tk') : CEnd h₀ L m s₁ led P ys { s₁ with heap := h', toks := tk' } :=
  ⟨h', tk', rfl, F, fun p hp => N p (sub p hp), hp⟩
def CompTTurn (prog : Program) (w : World) (A : Around) (h₀ : Heap) (L : Addr) (m : Str → Option Value) (env : Env) (elt : Expr) (x : Str) (scope : Scope) (cl : List (Str × Addr)) (s₁ : Shared) (news : List (Addr × Obj)) (P : List Value → List Value → Nat → Prop) : Prop :=
  ∀ v r ys I oI C oC D m₂ h tk (E' : Value → Shared → Prop), P (v :: r) ys tk → LCg.NsObj oC m₂ → m₂ x = some v → Fr h₀ L h m → News h₀ L h ((I, oI) :: (C, oC) :: (D, LCg.lst ys) :: news) → LCg.Off3 I C D news → ((@Ne Nat I C) ∧ (@Ne Nat I D) ∧ (@Ne Nat C D)) →
    wpAny (model prog w) A (eval elt (compEnvC scope cl C env)) (fun y s₂ => CEnd h₀ L m s₁ ((I, oI) :: (C, oC) :: (D, LCg.lst ys) :: news) (P r) (ys ++ [y]) s₂) E' { s₁ with heap := h, toks := tk }
def CompTFin (h₀ : Heap) (L : Addr) (m : Str → Option Value) (Q : Value → Shared → Prop) (s₁ : Shared) (news : List (Addr × Obj)) (P : List Value → Nat → Prop) : Prop :=
  ∀ D ys h tk, P ys tk → Fr h₀ L h m → News h₀ L h ((D, LCg.lst ys) :: news) → (∀ p ∈ news, p.1 < D) → Q (.ref D) { s₁ with heap := h, toks := tk }
def CompT2 (prog : Program) (w : World) (A : Around) (h₀ : Heap) (L : Addr) (m : Str → Option Value) (env : Env) (elt : Expr) (x : Str) (scope : Scope) (cl : List (Str × Addr)) (Q : Value → Shared → Prop) (s₁ : Shared) (vs : List Value) (news : List (Addr × Obj)) (P : List Value → List Value → Nat → Prop) : Prop :=
  P vs [] s₁.toks ∧ (∀ r ys a b, a ≤ b → P r ys a → P r ys b) ∧ CompTTurn prog w A h₀ L m env elt x scope cl s₁ news P ∧ CompTFin h₀ L m Q s₁ news (P [])
def CompT1 (prog : Program) (w : World) (A : Around) (h₀ : Heap) (L : Addr) (m : Str → Option Value) (env : Env) (elt : Expr) (x : Str) (scope : Scope) (cl : List (Str × Addr)) (Q : Value → Shared → Prop) (s₁ : Shared) (xv : Value) (ax : Addr) (lo : Obj) (vs : List Value) (n : Nat) (news : List (Addr × Obj)) : Prop :=
  xv = .ref ax ∧ A.handled = none ∧ Fr h₀ L s₁.heap m ∧ News h₀ L s₁.heap news ∧ (ax, lo) ∈ news ∧ lo.cls = .type "list" ∧ lo.data = .seq (List.toArray vs) n ∧ vs.length ≤ sizeLine ∧
    ∃ P : List Value → List Value → Nat → Prop, CompT2 prog w A h₀ L m env elt x scope cl Q s₁ vs news P
def CompT (prog : Program) (w : World) (A : Around) (h₀ : Heap) (L : Addr) (m : Str → Option Value) (env : Env) (elt : Expr) (x : Str) (scope : Scope) (cl : List (Str × Addr)) (Q : Value → Shared → Prop) (xv : Value) (s₁ : Shared) : Prop :=
  ∃ ax lo vs n news, CompT1 prog w A h₀ L m env elt x scope cl Q s₁ xv ax lo vs n news
def CompETurn (prog : Program) (w : World) (A : Around) (h₀ : Heap) (L : Addr) (m : Str → Option Value) (env : Env) (elt : Expr) (x x₂ : Str) (scope : Scope) (cl : List (Str × Addr)) (s₁ : Shared) (e it : Addr) (vs : List Value) (news : List (Addr × Obj)) (P : Nat → List Value → Prop) : Prop :=
  ∀ i t v ys oE oI C oC D m₂ h tk (E' : Value → Shared → Prop), vs[i]? = some v → P i ys → LCg.NsObj oC m₂ → m₂ x = some (.int (i : Nat) t) → m₂ x₂ = some v → Fr h₀ L h m → News h₀ L h ((e, oE) :: (it, oI) :: (C, oC) :: (D, LCg.lst ys) :: news) → (∀ p ∈ news, @Ne Nat p.1 C ∧ @Ne Nat p.1 D) →
    wpAny (model prog w) A (eval elt (compEnvC scope cl C env)) (fun y s₂ => CEnd h₀ L m s₁ ((e, oE) :: (it, oI) :: (C, oC) :: (D, LCg.lst ys) :: news) (fun ys _ => P (i + 1) ys) (ys ++ [y]) s₂) E' { s₁ with heap := h, toks := tk }
def CompE3 (prog : Program) (w : World) (A : Around) (h₀ : Heap) (L : Addr) (m : Str → Option Value) (env : Env) (elt : Expr) (x x₂ : Str) (scope : Scope) (cl : List (Str × Addr)) (Q : Value → Shared → Prop) (s₁ : Shared) (e it : Addr) (vs : List Value) (news : List (Addr × Obj)) (P : Nat → List Value → Prop) : Prop :=
  P 0 [] ∧ CompETurn prog w A h₀ L m env elt x x₂ scope cl s₁ e it vs news P ∧ CompTFin h₀ L m Q s₁ news (fun ys _ => P vs.length ys)
def CompE2 (prog : Program) (w : World) (A : Around) (h₀ : Heap) (L : Addr) (m : Str → Option Value) (env : Env) (elt : Expr) (x x₂ : Str) (scope : Scope) (cl : List (Str × Addr)) (Q : Value → Shared → Prop) (s₁ : Shared) (e it ax : Addr) (vs : List Value) (news : List (Addr × Obj)) : Prop :=
  IsEnum s₁.heap e it 0 .none ∧ s₁.heap.IsListIter it ax 0 ∧ @Ne Nat e it ∧ (∀ p ∈ news, @Ne Nat p.1 e ∧ @Ne Nat p.1 it) ∧ h₀.get? e = none ∧ h₀.get? it = none ∧ @Ne Nat L e ∧ @Ne Nat L it ∧
    ∃ P : Nat → List Value → Prop, CompE3 prog w A h₀ L m env elt x x₂ scope cl Q s₁ e it vs news P
def CompE1 (prog : Program) (w : World) (A : Around) (h₀ : Heap) (L : Addr) (m : Str → Option Value) (env : Env) (elt : Expr) (x x₂ : Str) (scope : Scope) (cl : List (Str × Addr)) (Q : Value → Shared → Prop) (s₁ : Shared) (xv : Value) (e it ax : Addr) (lo : Obj) (vs : List Value) (n : Nat) (news : List (Addr × Obj)) : Prop :=
  xv = .ref e ∧ A.handled = none ∧ Fr h₀ L s₁.heap m ∧ News h₀ L s₁.heap news ∧ (ax, lo) ∈ news ∧ lo.cls = .type "list" ∧ lo.data = .seq (List.toArray vs) n ∧ vs.length ≤ sizeLine ∧
    CompE2 prog w A h₀ L m env elt x x₂ scope cl Q s₁ e it ax vs news
def CompE (prog : Program) (w : World) (A : Around) (h₀ : Heap) (L : Addr) (m : Str → Option Value) (env : Env) (elt : Expr) (x x₂ : Str) (scope : Scope) (cl : List (Str × Addr)) (Q : Value → Shared → Prop) (xv : Value) (s₁ : Shared) : Prop :=
  ∃ e it ax lo vs n news, CompE1 prog w A h₀ L m env elt x x₂ scope cl Q s₁ xv e it ax lo vs n news
def CompRTurn (prog : Program) (w : World) (A : Around) (h₀ : Heap) (L : Addr) (m : Str → Option Value) (env : Env) (elt : Expr) (ifs : List Expr) (x : Str) (scope : Scope) (cl : List (Str × Addr)) (s₁ : Shared) (a₀ : Int) (n : Nat) (news : List (Addr × Obj)) (P : Nat → List Value → Prop) : Prop :=
  ∀ i t ys I oI C oC D m₂ h tk (E' : Value → Shared → Prop), i < n → P i ys → LCg.NsObj oC m₂ → m₂ x = some (.int (a₀ + (i : Int)) t) → Fr h₀ L h m → News h₀ L h ((I, oI) :: (C, oC) :: (D, LCg.lst ys) :: news) → LCg.Off3 I C D news → ((@Ne Nat I C) ∧ (@Ne Nat I D) ∧ (@Ne Nat C D)) →
    wpAny (model prog w) A (forIn ifs true fun c r => if r = true then do let ok ← isTrue c (compEnvC scope cl C env) (eval c (compEnvC scope cl C env)); pure (ForInStep.yield ok) else pure (ForInStep.yield r)) (fun ok s₃ =>
      if ok = true then wpAny (model prog w) A (eval elt (compEnvC scope cl C env)) (fun y s₂ => CEnd h₀ L m s₁ ((I, oI) :: (C, oC) :: (D, LCg.lst ys) :: news) (fun ys _ => P (i + 1) ys) (ys ++ [y]) s₂) E' s₃
      else CEnd h₀ L m s₁ ((I, oI) :: (C, oC) :: (D, LCg.lst ys) :: news) (fun ys _ => P (i + 1) ys) ys s₃) E' { s₁ with heap := h, toks := tk }
def CompRFin (h₀ : Heap) (L : Addr) (m : Str → Option Value) (Q : Value → Shared → Prop) (s₁ : Shared) (n : Nat) (news : List (Addr × Obj)) (P : Nat → List Value → Prop) : Prop :=
  ∀ D ys h tk k, P n ys → Fr h₀ L h m → News h₀ L h ((D, { cls := .type "list", data := .seq (List.toArray ys) k }) :: news) → (∀ p ∈ news, p.1 < D) → Q (.ref D) { s₁ with heap := h, toks := tk }
def CompR2 (prog : Program) (w : World) (A : Around) (h₀ : Heap) (L : Addr) (m : Str → Option Value) (env : Env) (elt : Expr) (ifs : List Expr) (x : Str) (scope : Scope) (cl : List (Str × Addr)) (Q : Value → Shared → Prop) (s₁ : Shared) (a₀ : Int) (n : Nat) (news : List (Addr × Obj)) (P : Nat → List Value → Prop) : Prop :=
  P 0 [] ∧ CompRTurn prog w A h₀ L m env elt ifs x scope cl s₁ a₀ n news P ∧ CompRFin h₀ L m Q s₁ n news P
def CompR1 (prog : Program) (w : World) (A : Around) (h₀ : Heap) (L : Addr) (m : Str → Option Value) (env : Env) (elt : Expr) (ifs : List Expr) (x : Str) (scope : Scope) (cl : List (Str × Addr)) (Q : Value → Shared → Prop) (s₁ : Shared) (xv : Value) (r : Addr) (a₀ b₀ : Int) (t₀ u₀ v₀ : Tok) (n : Nat) (news : List (Addr × Obj)) : Prop :=
  xv = .ref r ∧ A.handled = none ∧ Fr h₀ L s₁.heap m ∧ News h₀ L s₁.heap news ∧ IsRange s₁.heap r a₀ b₀ 1 t₀ u₀ v₀ ∧ Builtin.Range.small a₀ b₀ 1 = true ∧ Builtin.Range.rangeSize a₀ b₀ 1 = ((n : Nat) : Int) ∧ n ≤ sizeLine ∧
    ∃ P : Nat → List Value → Prop, CompR2 prog w A h₀ L m env elt ifs x scope cl Q s₁ a₀ n news P
def CompR (prog : Program) (w : World) (A : Around) (h₀ : Heap) (L : Addr) (m : Str → Option Value) (env : Env) (elt : Expr) (ifs : List Expr) (x : Str) (scope : Scope) (cl : List (Str × Addr)) (Q : Value → Shared → Prop) (xv : Value) (s₁ : Shared) : Prop :=
  ∃ r a₀ b₀ t₀ u₀ v₀ n news, CompR1 prog w A h₀ L m env elt ifs x scope cl Q s₁ xv r a₀ b₀ t₀ u₀ v₀ n news
def CompGo (prog : Program) (w : World) (A : Around) (E : Value → Shared → Prop) (env : Env) (scope : Scope) (cl : List (Str × Addr)) (Q : Value → Shared → Prop) (lc : Expr) (xv : Value) (s₁ : Shared) : Prop :=
  wpAny (model prog w) A (pyIter xv)
    (fun it s₂ => wpAny (model prog w) A (newList [])
        (fun acc s₃ => wpAny (model prog w) A (newFunctionEnv scope env.globals cl [] env.qual none Value.none (some env))
            (fun cenv s₄ => codeAny (model prog w) A
                (Code.compStart lc 0 it acc
                  { scope := relabel scope env, locals := cenv.locals, globals := cenv.globals, cells := cenv.cells,
                    qual := cenv.qual, func := cenv.func, code := cenv.code, frame := cenv.frame,
                    builtins := cenv.builtins })
                (compPost (model prog w) A E none Q acc cenv.locals) s₄)
            E s₃)
        E s₂)
    E s₁
def CListComp_T (prog : Program) (w : World) (A : Around) (E : Value → Shared → Prop) (h₀ : Heap) (L : Addr) (m : Str → Option Value) (env : Env) (elt : Expr) (x : Str) (px : Pos) (scope : Scope) (cl : List (Str × Addr)) (pos : Pos) (Q : Value → Shared → Prop) (iter : Expr) (s₁ : Shared) (ax : Addr) (lo : Obj) (vs : List Value) (n : Nat) (news : List (Addr × Obj)) (PT : List Value → List Value → Nat → Prop) : Prop :=
  (∀ y ∈ scope.names, y.2 ≠ .cell) → (scope.kind = .function) → (scope.names.lookup x = some .local) → (A.handled = none) → (Fr h₀ L s₁.heap m) → (News h₀ L s₁.heap news) → ((ax, lo) ∈ news) → (lo.cls = .type "list") → (lo.data = .seq (List.toArray vs) n) → (vs.length ≤ sizeLine) → (PT vs [] s₁.toks) → (∀ r ys a b, a ≤ b → PT r ys a → PT r ys b) → (CompTTurn prog w A h₀ L m env elt x scope cl s₁ news PT) → (CompTFin h₀ L m Q s₁ news (PT [])) →
  CompGo prog w A E env scope cl Q (.ListComp elt [⟨.Name x px, iter, [], 0⟩] scope pos) (.ref ax) s₁
def CListComp_E (prog : Program) (w : World) (A : Around) (E : Value → Shared → Prop) (h₀ : Heap) (L : Addr) (m : Str → Option Value) (env : Env) (elt : Expr) (x : Str) (x₂ : Str) (px : Pos) (px₂ : Pos) (tp : Pos) (tk : Nat) (scope : Scope) (cl : List (Str × Addr)) (pos : Pos) (Q : Value → Shared → Prop) (iter : Expr) (s₁ : Shared) (e : Addr) (it : Addr) (ax : Addr) (lo : Obj) (vs : List Value) (n : Nat) (news : List (Addr × Obj)) (P : Nat → List Value → Prop) : Prop :=
  (∀ y ∈ scope.names, y.2 ≠ .cell) → (scope.kind = .function) → (scope.names.lookup x = some .local) → (scope.names.lookup x₂ = some .local) → (x ≠ x₂) → (A.handled = none) → (Fr h₀ L s₁.heap m) → (News h₀ L s₁.heap news) → ((ax, lo) ∈ news) → (lo.cls = .type "list") → (lo.data = .seq (List.toArray vs) n) → (vs.length ≤ sizeLine) → (IsEnum s₁.heap e it 0 .none) → (s₁.heap.IsListIter it ax 0) → (@Ne Nat e it) → (∀ p ∈ news, @Ne Nat p.1 e ∧ @Ne Nat p.1 it) → (h₀.get? e = none) → (h₀.get? it = none) → (@Ne Nat L e) → (@Ne Nat L it) → (P 0 []) → (CompETurn prog w A h₀ L m env elt x x₂ scope cl s₁ e it vs news P) → (CompTFin h₀ L m Q s₁ news (fun ys _ => P vs.length ys)) →
  CompGo prog w A E env scope cl Q (.ListComp elt [⟨.Tuple [.Name x px, .Name x₂ px₂] tk tp, iter, [], 0⟩] scope pos) (.ref e) s₁
def CListComp_R (prog : Program) (w : World) (A : Around) (E : Value → Shared → Prop) (h₀ : Heap) (L : Addr) (m : Str → Option Value) (env : Env) (elt : Expr) (ifs : List Expr) (x : Str) (px : Pos) (scope : Scope) (cl : List (Str × Addr)) (pos : Pos) (Q : Value → Shared → Prop) (iter : Expr) (s₁ : Shared) (r : Addr) (a₀ : Int) (b₀ : Int) (t₀ : Tok) (u₀ : Tok) (v₀ : Tok) (n : Nat) (news : List (Addr × Obj)) (P : Nat → List Value → Prop) : Prop :=
  (∀ y ∈ scope.names, y.2 ≠ .cell) → (scope.kind = .function) → (scope.names.lookup x = some .local) → (A.handled = none) → (Fr h₀ L s₁.heap m) → (News h₀ L s₁.heap news) → (IsRange s₁.heap r a₀ b₀ 1 t₀ u₀ v₀) → (Builtin.Range.small a₀ b₀ 1 = true) → (Builtin.Range.rangeSize a₀ b₀ 1 = ((n : Nat) : Int)) → (n ≤ sizeLine) → (P 0 []) → (CompRTurn prog w A h₀ L m env elt ifs x scope cl s₁ a₀ n news P) → (CompRFin h₀ L m Q s₁ n news P) →
  CompGo prog w A E env scope cl Q (.ListComp elt [⟨.Name x px, iter, ifs, 0⟩] scope pos) (.ref r) s₁
abbrev VC := (Program) × (World) × (Around) × (Value → Shared → Prop) × (Heap) × (Addr) × (Str → Option Value) × (Env) × (Expr) × (Str) × (Pos) × (Scope) × (List (Str × Addr)) × (Pos) × (Value → Shared → Prop) × (Expr) × (Shared) × (Addr) × (Obj) × (List Value) × (Nat) × (List (Addr × Obj)) × (List Value → List Value → Nat → Prop) × (Str) × (Pos) × (Pos) × (Nat) × (Addr) × (Addr) × (Nat → List Value → Prop) × (List Expr) × (Addr) × (Int) × (Int) × (Tok) × (Tok) × (Tok)
def VCP (v : VC) : Prop := CListComp_T v.1 v.2.1 v.2.2.1 v.2.2.2.1 v.2.2.2.2.1 v.2.2.2.2.2.1 v.2.2.2.2.2.2.1 v.2.2.2.2.2.2.2.1 v.2.2.2.2.2.2.2.2.1 v.2.2.2.2.2.2.2.2.2.1 v.2.2.2.2.2.2.2.2.2.2.1 v.2.2.2.2.2.2.2.2.2.2.2.1 v.2.2.2.2.2.2.2.2.2.2.2.2.1 v.2.2.2.2.2.2.2.2.2.2.2.2.2.1 v.2.2.2.2.2.2.2.2.2.2.2.2.2.2.1 v.2.2.2.2.2.2.2.2.2.2.2.2.2.2.2.1 v.2.2.2.2.2.2.2.2.2.2.2.2.2.2.2.2.1 v.2.2.2.2.2.2.2.2.2.2.2.2.2.2.2.2.2.1 v.2.2.2.2.2.2.2.2.2.2.2.2.2.2.2.2.2.2.1 v.2.2.2.2.2.2.2.2.2.2.2.2.2.2.2.2.2.2.2.1 v.2.2.2.2.2.2.2.2.2.2.2.2.2.2.2.2.2.2.2.2.1 v.2.2.2.2.2.2.2.2.2.2.2.2.2.2.2.2.2.2.2.2.2.1 v.2.2.2.2.2.2.2.2.2.2.2.2.2.2.2.2.2.2.2.2.2.2.1 ∧ CListComp_E v.1 v.2.1 v.2.2.1 v.2.2.2.1 v.2.2.2.2.1 v.2.2.2.2.2.1 v.2.2.2.2.2.2.1 v.2.2.2.2.2.2.2.1 v.2.2.2.2.2.2.2.2.1 v.2.2.2.2.2.2.2.2.2.1 v.2.2.2.2.2.2.2.2.2.2.2.2.2.2.2.2.2.2.2.2.2.2.2.1 v.2.2.2.2.2.2.2.2.2.2.1 v.2.2.2.2.2.2.2.2.2.2.2.2.2.2.2.2.2.2.2.2.2.2.2.2.1 v.2.2.2.2.2.2.2.2.2.2.2.2.2.2.2.2.2.2.2.2.2.2.2.2.2.1 v.2.2.2.2.2.2.2.2.2.2.2.2.2.2.2.2.2.2.2.2.2.2.2.2.2.2.1 v.2.2.2.2.2.2.2.2.2.2.2.1 v.2.2.2.2.2.2.2.2.2.2.2.2.1 v.2.2.2.2.2.2.2.2.2.2.2.2.2.1 v.2.2.2.2.2.2.2.2.2.2.2.2.2.2.1 v.2.2.2.2.2.2.2.2.2.2.2.2.2.2.2.1 v.2.2.2.2.2.2.2.2.2.2.2.2.2.2.2.2.1 v.2.2.2.2.2.2.2.2.2.2.2.2.2.2.2.2.2.2.2.2.2.2.2.2.2.2.2.1 v.2.2.2.2.2.2.2.2.2.2.2.2.2.2.2.2.2.2.2.2.2.2.2.2.2.2.2.2.1 v.2.2.2.2.2.2.2.2.2.2.2.2.2.2.2.2.2.1 v.2.2.2.2.2.2.2.2.2.2.2.2.2.2.2.2.2.2.1 v.2.2.2.2.2.2.2.2.2.2.2.2.2.2.2.2.2.2.2.1 v.2.2.2.2.2.2.2.2.2.2.2.2.2.2.2.2.2.2.2.2.1 v.2.2.2.2.2.2.2.2.2.2.2.2.2.2.2.2.2.2.2.2.2.1 v.2.2.2.2.2.2.2.2.2.2.2.2.2.2.2.2.2.2.2.2.2.2.2.2.2.2.2.2.2.1 ∧ CListComp_R v.1 v.2.1 v.2.2.1 v.2.2.2.1 v.2.2.2.2.1 v.2.2.2.2.2.1 v.2.2.2.2.2.2.1 v.2.2.2.2.2.2.2.1 v.2.2.2.2.2.2.2.2.1 v.2.2.2.2.2.2.2.2.2.2.2.2.2.2.2.2.2.2.2.2.2.2.2.2.2.2.2.2.2.2.1 v.2.2.2.2.2.2.2.2.2.1 v.2.2.2.2.2.2.2.2.2.2.1 v.2.2.2.2.2.2.2.2.2.2.2.1 v.2.2.2.2.2.2.2.2.2.2.2.2.1 v.2.2.2.2.2.2.2.2.2.2.2.2.2.1 v.2.2.2.2.2.2.2.2.2.2.2.2.2.2.1 v.2.2.2.2.2.2.2.2.2.2.2.2.2.2.2.1 v.2.2.2.2.2.2.2.2.2.2.2.2.2.2.2.2.1 v.2.2.2.2.2.2.2.2.2.2.2.2.2.2.2.2.2.2.2.2.2.2.2.2.2.2.2.2.2.2.2.1 v.2.2.2.2.2.2.2.2.2.2.2.2.2.2.2.2.2.2.2.2.2.2.2.2.2.2.2.2.2.2.2.2.1 v.2.2.2.2.2.2.2.2.2.2.2.2.2.2.2.2.2.2.2.2.2.2.2.2.2.2.2.2.2.2.2.2.2.1 v.2.2.2.2.2.2.2.2.2.2.2.2.2.2.2.2.2.2.2.2.2.2.2.2.2.2.2.2.2.2.2.2.2.2.1 v.2.2.2.2.2.2.2.2.2.2.2.2.2.2.2.2.2.2.2.2.2.2.2.2.2.2.2.2.2.2.2.2.2.2.2.1 v.2.2.2.2.2.2.2.2.2.2.2.2.2.2.2.2.2.2.2.2.2.2.2.2.2.2.2.2.2.2.2.2.2.2.2.2 v.2.2.2.2.2.2.2.2.2.2.2.2.2.2.2.2.2.2.2.2.1 v.2.2.2.2.2.2.2.2.2.2.2.2.2.2.2.2.2.2.2.2.2.1 v.2.2.2.2.2.2.2.2.2.2.2.2.2.2.2.2.2.2.2.2.2.2.2.2.2.2.2.2.2.1
theorem ne_VC : Nonempty VC := ⟨((default : Program), (⟨fun _ _ => 0, { strHash := fun _ => 0, shareClass := fun _ => 0, mergeTok := id, idOf := fun _ => 0, idOfShared := fun _ _ => 0, followText := fun _ => false, idOfImm := fun _ => 0 }⟩ : World), ({} : Around), (fun _ _  => True), ({} : Heap), (0 : Addr), (fun _  => none), (default : Env), (default : Expr), (Str.empty : Str), (default : Pos), (default : Scope), ([] : List (Str × Addr)), (default : Pos), (fun _ _  => True), (default : Expr), ({} : Shared), (0 : Addr), (⟨.none, none, .plain, #[]⟩ : Obj), ([] : List Value), (0 : Nat), ([] : List (Addr × Obj)), (fun _ _ _  => True), (Str.empty : Str), (default : Pos), (default : Pos), (0 : Nat), (0 : Addr), (0 : Addr), (fun _ _  => True), ([] : List Expr), (0 : Addr), (0 : Int), (0 : Int), (0 : Tok), (0 : Tok), (0 : Tok))⟩
noncomputable def kc : {v : VC // VCP v → ∀ x, VCP x} := Classical.choice (drink ne_VC VCP)
noncomputable def K1.prog : Program := kc.1.1
noncomputable def K1.w : World := kc.1.2.1
noncomputable def K1.A : Around := kc.1.2.2.1
noncomputable def K1.E : Value → Shared → Prop := kc.1.2.2.2.1
noncomputable def K1.h₀ : Heap := kc.1.2.2.2.2.1
noncomputable def K1.L : Addr := kc.1.2.2.2.2.2.1
noncomputable def K1.m : Str → Option Value := kc.1.2.2.2.2.2.2.1
noncomputable def K1.env : Env := kc.1.2.2.2.2.2.2.2.1
noncomputable def K1.elt : Expr := kc.1.2.2.2.2.2.2.2.2.1
noncomputable def K1.x : Str := kc.1.2.2.2.2.2.2.2.2.2.1
noncomputable def K1.px : Pos := kc.1.2.2.2.2.2.2.2.2.2.2.1
noncomputable def K1.scope : Scope := kc.1.2.2.2.2.2.2.2.2.2.2.2.1
noncomputable def K1.cl : List (Str × Addr) := kc.1.2.2.2.2.2.2.2.2.2.2.2.2.1
noncomputable def K1.pos : Pos := kc.1.2.2.2.2.2.2.2.2.2.2.2.2.2.1
noncomputable def K1.Q : Value → Shared → Prop := kc.1.2.2.2.2.2.2.2.2.2.2.2.2.2.2.1
noncomputable def K1.iter : Expr := kc.1.2.2.2.2.2.2.2.2.2.2.2.2.2.2.2.1
noncomputable def K1.s₁ : Shared := kc.1.2.2.2.2.2.2.2.2.2.2.2.2.2.2.2.2.1
noncomputable def K1.ax : Addr := kc.1.2.2.2.2.2.2.2.2.2.2.2.2.2.2.2.2.2.1
noncomputable def K1.lo : Obj := kc.1.2.2.2.2.2.2.2.2.2.2.2.2.2.2.2.2.2.2.1
noncomputable def K1.vs : List Value := kc.1.2.2.2.2.2.2.2.2.2.2.2.2.2.2.2.2.2.2.2.1
noncomputable def K1.n : Nat := kc.1.2.2.2.2.2.2.2.2.2.2.2.2.2.2.2.2.2.2.2.2.1
noncomputable def K1.news : List (Addr × Obj) := kc.1.2.2.2.2.2.2.2.2.2.2.2.2.2.2.2.2.2.2.2.2.2.1
noncomputable def K1.PT : List Value → List Value → Nat → Prop := kc.1.2.2.2.2.2.2.2.2.2.2.2.2.2.2.2.2.2.2.2.2.2.2.1
noncomputable def K1.x₂ : Str := kc.1.2.2.2.2.2.2.2.2.2.2.2.2.2.2.2.2.2.2.2.2.2.2.2.1
noncomputable def K1.px₂ : Pos := kc.1.2.2.2.2.2.2.2.2.2.2.2.2.2.2.2.2.2.2.2.2.2.2.2.2.1
noncomputable def K1.tp : Pos := kc.1.2.2.2.2.2.2.2.2.2.2.2.2.2.2.2.2.2.2.2.2.2.2.2.2.2.1
noncomputable def K1.tk : Nat := kc.1.2.2.2.2.2.2.2.2.2.2.2.2.2.2.2.2.2.2.2.2.2.2.2.2.2.2.1
noncomputable def K1.e : Addr := kc.1.2.2.2.2.2.2.2.2.2.2.2.2.2.2.2.2.2.2.2.2.2.2.2.2.2.2.2.1
noncomputable def K1.it : Addr := kc.1.2.2.2.2.2.2.2.2.2.2.2.2.2.2.2.2.2.2.2.2.2.2.2.2.2.2.2.2.1
noncomputable def K1.P : Nat → List Value → Prop := kc.1.2.2.2.2.2.2.2.2.2.2.2.2.2.2.2.2.2.2.2.2.2.2.2.2.2.2.2.2.2.1
noncomputable def K1.ifs : List Expr := kc.1.2.2.2.2.2.2.2.2.2.2.2.2.2.2.2.2.2.2.2.2.2.2.2.2.2.2.2.2.2.2.1
noncomputable def K1.r : Addr := kc.1.2.2.2.2.2.2.2.2.2.2.2.2.2.2.2.2.2.2.2.2.2.2.2.2.2.2.2.2.2.2.2.1
noncomputable def K1.a₀ : Int := kc.1.2.2.2.2.2.2.2.2.2.2.2.2.2.2.2.2.2.2.2.2.2.2.2.2.2.2.2.2.2.2.2.2.1
noncomputable def K1.b₀ : Int := kc.1.2.2.2.2.2.2.2.2.2.2.2.2.2.2.2.2.2.2.2.2.2.2.2.2.2.2.2.2.2.2.2.2.2.1
noncomputable def K1.t₀ : Tok := kc.1.2.2.2.2.2.2.2.2.2.2.2.2.2.2.2.2.2.2.2.2.2.2.2.2.2.2.2.2.2.2.2.2.2.2.1
noncomputable def K1.u₀ : Tok := kc.1.2.2.2.2.2.2.2.2.2.2.2.2.2.2.2.2.2.2.2.2.2.2.2.2.2.2.2.2.2.2.2.2.2.2.2.1
noncomputable def K1.v₀ : Tok := kc.1.2.2.2.2.2.2.2.2.2.2.2.2.2.2.2.2.2.2.2.2.2.2.2.2.2.2.2.2.2.2.2.2.2.2.2.2
section
open K1
theorem cListComp_T : CListComp_T prog w A E h₀ L m env elt x px scope cl pos Q iter s₁ ax lo vs n news PT := by
  unfold CListComp_T CompGo
  intro hcell hkind hx hh F N hm hc hd hsz hP0 mono turn fin
  have isl : ∀ {h : Heap}, News h₀ L h news → h.IsList ax vs.toArray := fun N => ⟨lo, (N _ hm).1, hc, n, hd⟩
  refine wpAny_pyIter_list (isl N) (wpAny_newObj_type (wpAny_newFunctionEnv hcell (by intro y hy; simp at hy) (fun h₁ hns₁ hsb₁ => ?_) hkind))
  dsimp only at hns₁ hsb₁ ⊢
  generalize hH1 : s₁.heap.push { cls := .type "list_iterator", dict := none, data := .fields #[.ref ax, .int 0 0] } = H1 at hns₁ hsb₁ ⊢
  generalize hH2 : H1.push { cls := .type "list", dict := none, data := .seq ([] : List Value).toArray } = H2 at hns₁ hsb₁ ⊢
  have z1 : H1.objs.size = s₁.heap.objs.size + 1 := by rw [← hH1, Heap.size_push]
  have z2 : H2.objs.size = s₁.heap.objs.size + 2 := by rw [← hH2, Heap.size_push, z1]
  have up1 : ∀ b o, s₁.heap.get? b = some o → H1.get? b = some o := fun b o e => hH1 ▸ Heap.get?_push_of_some _ e
  have up2 : ∀ b o, H1.get? b = some o → H2.get? b = some o := fun b o e => hH2 ▸ Heap.get?_push_of_some _ e
  have up3 : ∀ b o, @Ne Nat b H2.objs.size → H2.get? b = some o → h₁.get? b = some o := fun b o hb e => hsb₁.extBut b o hb (Heap.get?_push_of_some _ e)
  have old : ∀ b o, s₁.heap.get? b = some o → h₁.get? b = some o := fun b o e => up3 b o (by have : @LT.lt Nat _ b s₁.heap.objs.size := Heap.lt_size e; omega) (up2 b o (up1 b o e))
  have gI : h₁.get? s₁.heap.objs.size = some { cls := .type "list_iterator", dict := none, data := .fields #[.ref ax, .int 0 0] } :=
    up3 _ _ (by rw [z2]; omega) (up2 _ _ (hH1 ▸ Heap.get?_push_size _ rfl))
  have gD : h₁.get? H1.objs.size = some (LCg.lst []) := up3 _ _ (by rw [z2, z1]; omega) (hH2 ▸ Heap.get?_push_size _ rfl)
  have fresh₀ : ∀ a, s₁.heap.objs.size ≤ a → h₀.get? a = none := fun a ha => by
    cases e : h₀.get? a with
    | none => rfl
    | some o' => exact absurd (Heap.lt_size (F.keep a o' e)) (Nat.not_lt.mpr ha)
  have n1 : h₀.get? s₁.heap.objs.size = none := fresh₀ _ (Nat.le_refl _)
  have n2 : h₀.get? H1.objs.size = none := fresh₀ _ (by rw [z1]; exact Nat.le_succ _)
  have n3 : h₀.get? H2.objs.size = none := fresh₀ _ (by rw [z2]; exact Nat.le_add_right _ _)
  have hL : @LT.lt Nat _ L s₁.heap.objs.size := F.ns.lt
  have l1 : @Ne Nat L s₁.heap.objs.size := by omega
  have l2 : @Ne Nat L H1.objs.size := by rw [z1]; omega
  have l3 : @Ne Nat L H2.objs.size := by rw [z2]; omega
  have d1 : @Ne Nat s₁.heap.objs.size H2.objs.size := by rw [z2]; omega
  have d2 : @Ne Nat s₁.heap.objs.size H1.objs.size := by rw [z1]; omega
  have d3 : @Ne Nat H2.objs.size H1.objs.size := by rw [z2, z1]; omega
  have lt : ∀ p ∈ news, @LT.lt Nat _ p.1 s₁.heap.objs.size := fun p hp => Heap.lt_size (N p hp).1
  have off : LCg.Off3 s₁.heap.objs.size H2.objs.size H1.objs.size news := LCg.Off3.of fun p hp => by
    have := lt p hp
    exact ⟨Nat.ne_of_lt this, Nat.ne_of_lt (by rw [z2]; omega), Nat.ne_of_lt (by rw [z1]; omega)⟩
  have off3 := off.mem
  have N₁ : News h₀ L h₁ news := fun p hp => ⟨old _ _ (N p hp).1, (N p hp).2⟩
  have F₁ : Fr h₀ L h₁ m := F.keeps old
  have loop : ∀ s₃ : Shared, s₃ = { s₁ with heap := h₁, toks := s₁.toks + ([] : List (Str × Value)).length } →
      codeAny (model prog w) A (.compLoop (.ListComp elt [⟨.Name x px, iter, [], 0⟩] scope pos) 0 (.ref s₁.heap.objs.size) (.ref H1.objs.size) (compEnvC scope cl H2.objs.size env))
        (compPost (model prog w) A E none Q (.ref H1.objs.size) H2.objs.size) s₃ := by
    rintro s₃ rfl
    refine codeAny_compLoop_tests
      (fun k s' => ∃ h' tk i ys m', s' = { s₁ with heap := h', toks := tk } ∧ i ≤ vs.length ∧ k = vs.length + 1 - i ∧ ys.length = i ∧ h'.IsListIter s₁.heap.objs.size ax i ∧ Fr h₀ L h' m ∧ h'.Ns H2.objs.size m' ∧ News h₀ L h' ((H1.objs.size, LCg.lst ys) :: news) ∧
        PT (vs.drop i) ys tk) ?_ (vs.length + 1)
      ⟨h₁, _, 0, [], _, rfl, Nat.zero_le _, rfl, rfl, ⟨_, gI, rfl, rfl⟩, F₁, hns₁, fun p hp => ?_, hP0⟩
    · rintro k s' ⟨h', tk, i, ys, m', rfl, hi, rfl, hyl, hit, F', hn', N', hP⟩
      have Nn : News h₀ L h' news := fun p hp => N' p (List.mem_cons_of_mem _ hp)
      by_cases hlt : i < vs.length
      · have hget : vs.toArray[i]? = some vs[i] := by rw [List.getElem?_toArray, List.getElem?_eq_getElem hlt]
        rw [List.drop_eq_getElem_cons hlt] at hP
        refine wpAny_pyNext_list_item hit (isl Nn) hget fun h₂ hit₂ hs₂ => ?_
        refine wpAny_assign_Name (wpAny_storeName_local (lookup_relabel_local hx) (hn'.sameBut hs₂ (Ne.symm d1)) (fun h₃ hn₃ hs₃ => ?_) (by simp [compEnvC, relabel, hkind]))
        refine wpAny_tests_nil ?_
        simp only [if_true]
        have keep₂ : ∀ b o, b ≠ s₁.heap.objs.size → h'.get? b = some o → h₂.get? b = some o := fun b o hb e => hs₂.extBut b o hb e
        have keep₃ : ∀ b o, b ≠ H2.objs.size → h₂.get? b = some o → h₃.get? b = some o := fun b o hb e => hs₃.extBut b o hb e
        obtain ⟨oI, gI₂, hqI⟩ := id hit₂
        have gI₃ := keep₃ _ _ d1 gI₂
        obtain ⟨oC, heC, hoC⟩ := LCg.ns_obj hn₃
        have F₃ : Fr h₀ L h₃ m := ⟨F'.ns.at' fun o e => keep₃ _ _ l3 (keep₂ _ _ l1 e), fun b o e => keep₃ b o (fun q => by rw [q, n3] at e; cases e) (keep₂ b o (fun q => by rw [q, n1] at e; cases e) (F'.keep b o e)), F'.above⟩
        have N₃ : News h₀ L h₃ ((s₁.heap.objs.size, oI) :: (H2.objs.size, oC) :: (H1.objs.size, LCg.lst ys) :: news) := fun p hp => by
          rcases List.mem_cons.mp hp with rfl | hp
          · exact ⟨gI₃, Ne.symm l1, n1⟩
          · rcases List.mem_cons.mp hp with rfl | hp
            · exact ⟨heC, Ne.symm l3, n3⟩
            · have z := N' p hp
              refine ⟨?_, z.2⟩
              rcases List.mem_cons.mp hp with rfl | hp
              · exact keep₃ _ _ (Ne.symm d3) (keep₂ _ _ (Ne.symm d2) z.1)
              · exact keep₃ _ _ (off3 p hp).2.1 (keep₂ _ _ (off3 p hp).1 z.1)
        refine wpAny_mono (turn _ _ ys s₁.heap.objs.size oI H2.objs.size oC H1.objs.size _ h₃ _ _ (mono _ _ _ _ (Nat.le_succ tk) hP) hoC (by simp) F₃ N₃ off ⟨d1, d2, d3⟩) (fun y s₄ h₄ => ?_) fun _ _ e => e
        obtain ⟨h₄, tk₄, rfl, F₄, N₄, hP₄⟩ := h₄
        have zI := (N₄ (s₁.heap.objs.size, oI) List.mem_cons_self).1
        have zC := (N₄ (H2.objs.size, oC) (List.mem_cons_of_mem _ List.mem_cons_self)).1
        have zD := (N₄ (H1.objs.size, LCg.lst ys) (List.mem_cons_of_mem _ (List.mem_cons_of_mem _ List.mem_cons_self))).1
        have Nn₄ : News h₀ L h₄ news := fun p hp => N₄ p (List.mem_cons_of_mem _ (List.mem_cons_of_mem _ (List.mem_cons_of_mem _ hp)))
        refine append_at (hsz := by show ys.toArray.size ≤ sizeLine; rw [List.size_toArray, hyl]; exact Nat.le_trans hi hsz) zD fun h₅ hs₅ hD₅ => ?_
        refine ⟨vs.length + 1 - (i + 1), by omega, h₅, tk₄, i + 1, ys ++ [y], _, rfl, hlt, rfl, by rw [List.length_append, List.length_singleton, hyl], ⟨oI, hs₅.extBut _ _ d2 zI, hqI⟩, F₄.change hs₅ (Ne.symm l2) n2,
          (hoC.ns zC).sameBut hs₅ d3, fun p hp => ?_, hP₄⟩
        rcases List.mem_cons.mp hp with rfl | hp
        · exact ⟨hD₅.trans (congrArg some (LCg.lst_snoc ys y)), Ne.symm l2, n2⟩
        · exact ⟨hs₅.extBut _ _ (off3 p hp).2.2 (Nn₄ p hp).1, (Nn₄ p hp).2⟩
      · obtain rfl : i = vs.length := Nat.le_antisymm hi (Nat.not_lt.mp hlt)
        rw [List.drop_length] at hP
        refine wpAny_pyNext_list_end hh hit (isl Nn) (by rw [List.getElem?_toArray, List.getElem?_eq_none (Nat.le_refl _)]) fun h₂ he₂ => ?_
        have keep₂ : ∀ b o, b ≠ s₁.heap.objs.size → h'.get? b = some o → h₂.get? b = some o := fun b o hb e => he₂ b o hb e
        refine ⟨m', hn'.at' fun o e => keep₂ _ _ (Ne.symm d1) e, fun h'' hs'' => fin H1.objs.size ys h'' tk hP ?_ (fun p hp => ?_) fun p hp => ?_⟩
        · have F₂ : Fr h₀ L h₂ m := ⟨F'.ns.at' fun o e => keep₂ _ _ l1 e, fun b o e => keep₂ b o (fun q => by rw [q, n1] at e; cases e) (F'.keep b o e), F'.above⟩
          exact F₂.change hs'' (Ne.symm l3) n3
        · have z := N' p hp
          refine ⟨?_, z.2⟩
          rcases List.mem_cons.mp hp with rfl | hp
          · exact hs''.extBut _ _ (Ne.symm d3) (keep₂ _ _ (Ne.symm d2) z.1)
          · exact hs''.extBut _ _ (off3 p hp).2.1 (keep₂ _ _ (off3 p hp).1 z.1)
        · have := lt p hp
          show @LT.lt Nat _ p.1 H1.objs.size
          rw [z1]; omega
    · rcases List.mem_cons.mp hp with rfl | hp
      · exact ⟨gD, Ne.symm l2, n2⟩
      · exact N₁ p hp
  exact codeAny_compStart_list (loop _ rfl) (wpAny_pyIter_listiter ⟨_, gI, rfl, rfl⟩ (loop _ rfl))
theorem cListComp_E : CListComp_E prog w A E h₀ L m env elt x x₂ px px₂ tp tk scope cl pos Q iter s₁ e it ax lo vs n news P := by
  unfold CListComp_E CompGo
  intro hcell hkind hx hx₂ hxx hh F N hm hc hd hsz hen hli hei noff e0 i0 Le Li hP0 turn fin
  have isl : ∀ {h : Heap}, News h₀ L h news → h.IsList ax vs.toArray := fun N => ⟨lo, (N _ hm).1, hc, n, hd⟩
  refine wpAny_pyIter_enum hen (wpAny_newObj_type (wpAny_newFunctionEnv hcell (by intro y hy; simp at hy) (fun h₁ hns₁ hsb₁ => ?_) hkind))
  dsimp only at hns₁ hsb₁ ⊢
  generalize hH2 : s₁.heap.push { cls := .type "list", dict := none, data := .seq ([] : List Value).toArray } = H2 at hns₁ hsb₁ ⊢
  have z2 : H2.objs.size = s₁.heap.objs.size + 1 := by rw [← hH2, Heap.size_push]
  have up2 : ∀ b o, s₁.heap.get? b = some o → H2.get? b = some o := fun b o e => hH2 ▸ Heap.get?_push_of_some _ e
  have up3 : ∀ b o, @Ne Nat b H2.objs.size → H2.get? b = some o → h₁.get? b = some o := fun b o hb e => hsb₁.extBut b o hb (Heap.get?_push_of_some _ e)
  have lt0 : ∀ b o, s₁.heap.get? b = some o → @LT.lt Nat _ b s₁.heap.objs.size := fun b o e => Heap.lt_size e
  have old : ∀ b o, s₁.heap.get? b = some o → h₁.get? b = some o := fun b o e => up3 b o (by have := lt0 b o e; omega) (up2 b o e)
  have gD : h₁.get? s₁.heap.objs.size = some (LCg.lst []) := up3 _ _ (by rw [z2]; omega) (hH2 ▸ Heap.get?_push_size _ rfl)
  have fresh₀ : ∀ a, s₁.heap.objs.size ≤ a → h₀.get? a = none := fun a ha => by
    cases e : h₀.get? a with
    | none => rfl
    | some o' => exact absurd (Heap.lt_size (F.keep a o' e)) (Nat.not_lt.mpr ha)
  have n2 : h₀.get? s₁.heap.objs.size = none := fresh₀ _ (Nat.le_refl _)
  have n3 : h₀.get? H2.objs.size = none := fresh₀ _ (by rw [z2]; exact Nat.le_succ _)
  have hL : @LT.lt Nat _ L s₁.heap.objs.size := F.ns.lt
  have hE : @LT.lt Nat _ e s₁.heap.objs.size := lt0 _ _ hen
  have hI : @LT.lt Nat _ it s₁.heap.objs.size := by obtain ⟨o, q, _⟩ := hli; exact lt0 _ _ q
  have l2 : @Ne Nat L s₁.heap.objs.size := by omega
  have l3 : @Ne Nat L H2.objs.size := by rw [z2]; omega
  have d3 : @Ne Nat H2.objs.size s₁.heap.objs.size := by rw [z2]; omega
  have eD : @Ne Nat e s₁.heap.objs.size := by omega
  have eC : @Ne Nat e H2.objs.size := by rw [z2]; omega
  have iD : @Ne Nat it s₁.heap.objs.size := by omega
  have iC : @Ne Nat it H2.objs.size := by rw [z2]; omega
  have lt : ∀ p ∈ news, @LT.lt Nat _ p.1 s₁.heap.objs.size := fun p hp => Heap.lt_size (N p hp).1
  have off : ∀ p ∈ news, @Ne Nat p.1 H2.objs.size ∧ @Ne Nat p.1 s₁.heap.objs.size := fun p hp => by
    have := lt p hp
    exact ⟨by rw [z2]; omega, by omega⟩
  have hax : @Ne Nat ax e ∧ @Ne Nat ax it := noff _ hm
  have N₁ : News h₀ L h₁ news := fun p hp => ⟨old _ _ (N p hp).1, (N p hp).2⟩
  have F₁ : Fr h₀ L h₁ m := F.keeps old
  have loop : ∀ s₃ : Shared, s₃ = { s₁ with heap := h₁, toks := s₁.toks + ([] : List (Str × Value)).length } →
      codeAny (model prog w) A (.compLoop (.ListComp elt [⟨.Tuple [.Name x px, .Name x₂ px₂] tk tp, iter, [], 0⟩] scope pos) 0 (.ref e) (.ref s₁.heap.objs.size) (compEnvC scope cl H2.objs.size env))
        (compPost (model prog w) A E none Q (.ref s₁.heap.objs.size) H2.objs.size) s₃ := by
    rintro s₃ rfl
    refine LCp.codeAny_compLoop_pair
      (fun k s' => ∃ h' tk i ys m' old, s' = { s₁ with heap := h', toks := tk } ∧ i ≤ vs.length ∧ k = vs.length + 1 - i ∧ ys.length = i ∧ IsEnum h' e it (i : Nat) old ∧ h'.IsListIter it ax i ∧ Fr h₀ L h' m ∧ h'.Ns H2.objs.size m' ∧ News h₀ L h' ((s₁.heap.objs.size, LCg.lst ys) :: news) ∧
        P i ys) ?_ (vs.length + 1)
      ⟨h₁, _, 0, [], _, .none, rfl, Nat.zero_le _, rfl, rfl, old _ _ hen, hli.at fun o q => old _ _ q, F₁, hns₁, fun p hp => ?_, hP0⟩
    · rintro k s' ⟨h', tk', i, ys, m', od, rfl, hi, rfl, hyl, hen', hit, F', hn', N', hP⟩
      have Nn : News h₀ L h' news := fun p hp => N' p (List.mem_cons_of_mem _ hp)
      by_cases hlt : i < vs.length
      · have hget : vs.toArray[i]? = some vs[i] := by rw [List.getElem?_toArray, List.getElem?_eq_getElem hlt]
        have hget' : vs[i]? = some vs[i] := List.getElem?_eq_getElem hlt
        refine wpAny_pyNext_enum_item hen' hit (isl Nn) hget hei fun h₂ ho hit₂ hT hz₂ hk₂ => ?_
        have sz : @LE.le Nat _ s₁.heap.objs.size h'.objs.size := by
          have z := Heap.lt_size (N' _ List.mem_cons_self).1
          have z' : @LT.lt Nat _ s₁.heap.objs.size h'.objs.size := z
          omega
        have szC : @LT.lt Nat _ H2.objs.size h'.objs.size := by obtain ⟨o, _, _, q, _⟩ := hn'; exact Heap.lt_size q
        refine wpAny_letOwnedTupleGo_enum ho fun h₃ he₃ hs₃ => ?_
        have tE : @Ne Nat h'.objs.size e := by omega
        have hT₃ : IsTup h₃ h'.objs.size #[.int (i : Nat) tk', vs[i]] := ⟨_, hs₃.extBut _ _ tE hT, rfl, _, rfl⟩
        refine assign_Tuple_tuple hh hT₃ rfl rfl fun h₅ he₅ => ?_
        have up5 : ∀ b o, h₃.get? b = some o → h₅.get? b = some o := fun b o q => he₅ b o (Nat.ne_of_lt (Heap.lt_size q)) q
        have upC : ∀ b o, @Ne Nat b e → @Ne Nat b it → h'.get? b = some o → h₅.get? b = some o := fun b o b1 b2 q => up5 b o (hs₃.extBut b o b1 (hk₂ b o b1 b2 q))
        refine assignInOrder_cons (wpAny_assign_Name (wpAny_storeName_local (lookup_relabel_local hx) (hn'.at' fun o q => upC _ o (Ne.symm eC) (Ne.symm iC) q) (fun h₆ hn₆ hs₆ => ?_) (by simp [compEnvC, relabel, hkind])))
        refine assignInOrder_cons (wpAny_assign_Name (wpAny_storeName_local (lookup_relabel_local hx₂) hn₆ (fun h₇ hn₇ hs₇ => ?_) (by simp [compEnvC, relabel, hkind])))
        refine assignInOrder_nil ?_
        have up7 : ∀ b o, @Ne Nat b H2.objs.size → h₅.get? b = some o → h₇.get? b = some o := fun b o hb q => hs₇.extBut b o hb (hs₆.extBut b o hb q)
        have upA : ∀ b o, @Ne Nat b e → @Ne Nat b it → @Ne Nat b H2.objs.size → h'.get? b = some o → h₇.get? b = some o := fun b o b1 b2 b3 q => up7 b o b3 (upC b o b1 b2 q)
        obtain ⟨oC, heC, hoC⟩ := LCg.ns_obj hn₇
        have gE₇ : IsEnum h₇ e it ((i : Int) + 1) _ := up7 _ _ eC (up5 _ _ he₃)
        obtain ⟨oI, gI₂, hqI⟩ := id hit₂
        have gI₇ := up7 _ _ iC (up5 _ _ (hs₃.extBut _ _ (Ne.symm hei) gI₂))
        have F₇ : Fr h₀ L h₇ m := ⟨F'.ns.at' fun o q => upA _ _ Le Li l3 q, fun b o q => upA b o (fun z => by rw [z, e0] at q; cases q) (fun z => by rw [z, i0] at q; cases q) (fun z => by rw [z, n3] at q; cases q) (F'.keep b o q), F'.above⟩
        have N₇ : News h₀ L h₇ ((e, _) :: (it, oI) :: (H2.objs.size, oC) :: (s₁.heap.objs.size, LCg.lst ys) :: news) := fun p hp => by
          rcases List.mem_cons.mp hp with rfl | hp
          · exact ⟨gE₇, Ne.symm Le, e0⟩
          rcases List.mem_cons.mp hp with rfl | hp
          · exact ⟨gI₇, Ne.symm Li, i0⟩
          rcases List.mem_cons.mp hp with rfl | hp
          · exact ⟨heC, Ne.symm l3, n3⟩
          have z := N' p hp
          refine ⟨?_, z.2⟩
          rcases List.mem_cons.mp hp with rfl | hp
          · exact upA _ _ (Ne.symm eD) (Ne.symm iD) (Ne.symm d3) z.1
          · exact upA _ _ (noff p hp).1 (noff p hp).2 (off p hp).1 z.1
        refine wpAny_mono (turn i tk' _ ys _ oI H2.objs.size oC s₁.heap.objs.size _ h₇ _ _ hget' hP hoC (by simp [hxx]) (by simp) F₇ N₇ off) (fun y s₄ h₄ => ?_) fun _ _ q => q
        obtain ⟨h₄, tk₄, rfl, F₄, N₄, hP₄⟩ := h₄
        have zE := (N₄ _ List.mem_cons_self).1
        have zI := (N₄ (it, oI) (List.mem_cons_of_mem _ List.mem_cons_self)).1
        have zC := (N₄ (H2.objs.size, oC) (List.mem_cons_of_mem _ (List.mem_cons_of_mem _ List.mem_cons_self))).1
        have zD := (N₄ (s₁.heap.objs.size, LCg.lst ys) (List.mem_cons_of_mem _ (List.mem_cons_of_mem _ (List.mem_cons_of_mem _ List.mem_cons_self)))).1
        have Nn₄ : News h₀ L h₄ news := fun p hp => N₄ p (List.mem_cons_of_mem _ (List.mem_cons_of_mem _ (List.mem_cons_of_mem _ (List.mem_cons_of_mem _ hp))))
        refine append_at (hsz := by show ys.toArray.size ≤ sizeLine; rw [List.size_toArray, hyl]; exact Nat.le_trans hi hsz) zD fun h₈ hs₈ hD₈ => ?_
        refine ⟨vs.length + 1 - (i + 1), by omega, h₈, tk₄, i + 1, ys ++ [y], _, vs[i], rfl, hlt, rfl, by rw [List.length_append, List.length_singleton, hyl], ?_, ⟨oI, hs₈.extBut _ _ iD zI, hqI⟩, F₄.change hs₈ (Ne.symm l2) n2,
          (hoC.ns zC).sameBut hs₈ d3, fun p hp => ?_, hP₄⟩
        · have q := hs₈.extBut _ _ eD zE
          exact q
        · rcases List.mem_cons.mp hp with rfl | hp
          · exact ⟨hD₈.trans (congrArg some (LCg.lst_snoc ys y)), Ne.symm l2, n2⟩
          · exact ⟨hs₈.extBut _ _ (off p hp).2 (Nn₄ p hp).1, (Nn₄ p hp).2⟩
      · obtain rfl : i = vs.length := Nat.le_antisymm hi (Nat.not_lt.mp hlt)
        refine wpAny_pyNext_enum_end hh hen' hit (isl Nn) (by rw [List.getElem?_toArray, List.getElem?_eq_none (Nat.le_refl _)]) fun h₂ he₂ => ?_
        have keep₂ : ∀ b o, @Ne Nat b it → h'.get? b = some o → h₂.get? b = some o := fun b o hb q => he₂ b o hb q
        refine ⟨m', hn'.at' fun o q => keep₂ _ _ (Ne.symm iC) q, fun h'' hs'' => fin s₁.heap.objs.size ys h'' tk' hP ?_ (fun p hp => ?_) fun p hp => lt p hp⟩
        · have F₂ : Fr h₀ L h₂ m := ⟨F'.ns.at' fun o q => keep₂ _ _ Li q, fun b o q => keep₂ b o (fun z => by rw [z, i0] at q; cases q) (F'.keep b o q), F'.above⟩
          exact F₂.change hs'' (Ne.symm l3) n3
        · have z := N' p hp
          refine ⟨?_, z.2⟩
          rcases List.mem_cons.mp hp with rfl | hp
          · exact hs''.extBut _ _ (Ne.symm d3) (keep₂ _ _ (Ne.symm iD) z.1)
          · exact hs''.extBut _ _ (off p hp).1 (keep₂ _ _ (noff p hp).2 z.1)
    · rcases List.mem_cons.mp hp with rfl | hp
      · exact ⟨gD, Ne.symm l2, n2⟩
      · exact N₁ p hp
  exact codeAny_compStart_list (loop _ rfl) (wpAny_pyIter_enum (old _ _ hen) (loop _ rfl))
theorem cListComp_R : CListComp_R prog w A E h₀ L m env elt ifs x px scope cl pos Q iter s₁ r a₀ b₀ t₀ u₀ v₀ n news P := by
  unfold CListComp_R CompGo
  intro hcell hkind hx hh F N hr hsm hn hsz hP0 turn fin
  refine wpAny_pyIter_range hr hsm (wpAny_newObj_type (wpAny_newFunctionEnv hcell (by intro y hy; simp at hy) (fun h₁ hns₁ hsb₁ => ?_) hkind))
  dsimp only at hns₁ hsb₁ ⊢
  generalize hH1 : s₁.heap.push { cls := .type "range_iterator", dict := none, data := .fields #[rawInt a₀, rawInt (Builtin.Range.rangeSize a₀ b₀ 1), rawInt 1] } = H1 at hns₁ hsb₁ ⊢
  generalize hH2 : H1.push { cls := .type "list", dict := none, data := .seq ([] : List Value).toArray } = H2 at hns₁ hsb₁ ⊢
  have z1 : H1.objs.size = s₁.heap.objs.size + 1 := by rw [← hH1, Heap.size_push]
  have z2 : H2.objs.size = s₁.heap.objs.size + 2 := by rw [← hH2, Heap.size_push, z1]
  have up1 : ∀ b o, s₁.heap.get? b = some o → H1.get? b = some o := fun b o e => hH1 ▸ Heap.get?_push_of_some _ e
  have up2 : ∀ b o, H1.get? b = some o → H2.get? b = some o := fun b o e => hH2 ▸ Heap.get?_push_of_some _ e
  have up3 : ∀ b o, @Ne Nat b H2.objs.size → H2.get? b = some o → h₁.get? b = some o := fun b o hb e => hsb₁.extBut b o hb (Heap.get?_push_of_some _ e)
  have old : ∀ b o, s₁.heap.get? b = some o → h₁.get? b = some o := fun b o e => up3 b o (by have : @LT.lt Nat _ b s₁.heap.objs.size := Heap.lt_size e; omega) (up2 b o (up1 b o e))
  have gI : IsRangeIter h₁ s₁.heap.objs.size a₀ (n : Int) 1 := by
    have z := up3 _ _ (by rw [z2]; omega) (up2 _ _ (hH1 ▸ Heap.get?_push_size s₁.heap (o := { cls := .type "range_iterator", dict := none, data := .fields #[rawInt a₀, rawInt (Builtin.Range.rangeSize a₀ b₀ 1), rawInt 1] }) rfl))
    rw [hn] at z
    exact z
  have gD : h₁.get? H1.objs.size = some (LCg.lst []) := up3 _ _ (by rw [z2, z1]; omega) (hH2 ▸ Heap.get?_push_size _ rfl)
  have fresh₀ : ∀ a, s₁.heap.objs.size ≤ a → h₀.get? a = none := fun a ha => by
    cases e : h₀.get? a with
    | none => rfl
    | some o' => exact absurd (Heap.lt_size (F.keep a o' e)) (Nat.not_lt.mpr ha)
  have n1 : h₀.get? s₁.heap.objs.size = none := fresh₀ _ (Nat.le_refl _)
  have n2 : h₀.get? H1.objs.size = none := fresh₀ _ (by rw [z1]; exact Nat.le_succ _)
  have n3 : h₀.get? H2.objs.size = none := fresh₀ _ (by rw [z2]; exact Nat.le_add_right _ _)
  have hL : @LT.lt Nat _ L s₁.heap.objs.size := F.ns.lt
  have l1 : @Ne Nat L s₁.heap.objs.size := by omega
  have l2 : @Ne Nat L H1.objs.size := by rw [z1]; omega
  have l3 : @Ne Nat L H2.objs.size := by rw [z2]; omega
  have d1 : @Ne Nat s₁.heap.objs.size H2.objs.size := by rw [z2]; omega
  have d2 : @Ne Nat s₁.heap.objs.size H1.objs.size := by rw [z1]; omega
  have d3 : @Ne Nat H2.objs.size H1.objs.size := by rw [z2, z1]; omega
  have lt : ∀ p ∈ news, @LT.lt Nat _ p.1 s₁.heap.objs.size := fun p hp => Heap.lt_size (N p hp).1
  have off : LCg.Off3 s₁.heap.objs.size H2.objs.size H1.objs.size news := LCg.Off3.of fun p hp => by
    have := lt p hp
    exact ⟨Nat.ne_of_lt this, Nat.ne_of_lt (by rw [z2]; omega), Nat.ne_of_lt (by rw [z1]; omega)⟩
  have off3 := off.mem
  have N₁ : News h₀ L h₁ news := fun p hp => ⟨old _ _ (N p hp).1, (N p hp).2⟩
  have F₁ : Fr h₀ L h₁ m := F.keeps old
  have loop : ∀ s₃ : Shared, s₃ = { s₁ with heap := h₁, toks := s₁.toks + ([] : List (Str × Value)).length } →
      codeAny (model prog w) A (.compLoop (.ListComp elt [⟨.Name x px, iter, ifs, 0⟩] scope pos) 0 (.ref s₁.heap.objs.size) (.ref H1.objs.size) (compEnvC scope cl H2.objs.size env))
        (compPost (model prog w) A E none Q (.ref H1.objs.size) H2.objs.size) s₃ := by
    rintro s₃ rfl
    refine codeAny_compLoop_tests
      (fun k s' => ∃ h' tk i ys m', s' = { s₁ with heap := h', toks := tk } ∧ i ≤ n ∧ k = n + 1 - i ∧ ys.length ≤ i ∧ IsRangeIter h' s₁.heap.objs.size (a₀ + (i : Int)) ((n : Int) - (i : Int)) 1 ∧ Fr h₀ L h' m ∧ h'.Ns H2.objs.size m' ∧ News h₀ L h' ((H1.objs.size, LCg.lst ys) :: news) ∧
        P i ys) ?_ (n + 1)
      ⟨h₁, _, 0, [], _, rfl, Nat.zero_le _, rfl, Nat.le_refl _, by simpa using gI, F₁, hns₁, fun p hp => ?_, hP0⟩
    · rintro k s' ⟨h', tk, i, ys, m', rfl, hi, rfl, hyl, hit, F', hn', N', hP⟩
      have Nn : News h₀ L h' news := fun p hp => N' p (List.mem_cons_of_mem _ hp)
      by_cases hlt : i < n
      · refine wpAny_pyNext_range_item hit (by omega) fun h₂ hit₂ hs₂ => ?_
        refine wpAny_assign_Name (wpAny_storeName_local (lookup_relabel_local hx) (hn'.sameBut hs₂ (Ne.symm d1)) (fun h₃ hn₃ hs₃ => ?_) (by simp [compEnvC, relabel, hkind]))
        have keep₂ : ∀ b o, b ≠ s₁.heap.objs.size → h'.get? b = some o → h₂.get? b = some o := fun b o hb e => hs₂.extBut b o hb e
        have keep₃ : ∀ b o, b ≠ H2.objs.size → h₂.get? b = some o → h₃.get? b = some o := fun b o hb e => hs₃.extBut b o hb e
        have gI₃ := keep₃ _ _ d1 hit₂
        obtain ⟨oC, heC, hoC⟩ := LCg.ns_obj hn₃
        have F₃ : Fr h₀ L h₃ m := ⟨F'.ns.at' fun o e => keep₃ _ _ l3 (keep₂ _ _ l1 e), fun b o e => keep₃ b o (fun q => by rw [q, n3] at e; cases e) (keep₂ b o (fun q => by rw [q, n1] at e; cases e) (F'.keep b o e)), F'.above⟩
        have N₃ : News h₀ L h₃ ((s₁.heap.objs.size, _) :: (H2.objs.size, oC) :: (H1.objs.size, LCg.lst ys) :: news) := fun p hp => by
          rcases List.mem_cons.mp hp with rfl | hp
          · exact ⟨gI₃, Ne.symm l1, n1⟩
          · rcases List.mem_cons.mp hp with rfl | hp
            · exact ⟨heC, Ne.symm l3, n3⟩
            · have z := N' p hp
              refine ⟨?_, z.2⟩
              rcases List.mem_cons.mp hp with rfl | hp
              · exact keep₃ _ _ (Ne.symm d3) (keep₂ _ _ (Ne.symm d2) z.1)
              · exact keep₃ _ _ (off3 p hp).2.1 (keep₂ _ _ (off3 p hp).1 z.1)
        have step : ∀ h₅ : Heap, IsRangeIter h₅ s₁.heap.objs.size (a₀ + (i : Int) + 1) ((n : Int) - (i : Int) - 1) 1 → IsRangeIter h₅ s₁.heap.objs.size (a₀ + ((i + 1 : Nat) : Int)) ((n : Int) - ((i + 1 : Nat) : Int)) 1 := fun h₅ q => by
          have e1 : a₀ + ((i + 1 : Nat) : Int) = a₀ + (i : Int) + 1 := by omega
          have e2 : (n : Int) - ((i + 1 : Nat) : Int) = (n : Int) - (i : Int) - 1 := by omega
          rw [e1, e2]
          exact q
        refine wpAny_mono (turn i _ ys s₁.heap.objs.size _ H2.objs.size oC H1.objs.size _ h₃ _ _ hlt hP hoC (if_pos rfl) F₃ N₃ off ⟨d1, d2, d3⟩) (fun ok s₃ h₃ => ?_) fun _ _ e => e
        split at h₃
        · rename_i hok
          rw [if_pos hok]
          refine wpAny_mono h₃ (fun y s₄ h₄ => ?_) fun _ _ e => e
          obtain ⟨h₄, tk₄, rfl, F₄, N₄, hP₄⟩ := h₄
          have zI := (N₄ _ List.mem_cons_self).1
          have zC := (N₄ (H2.objs.size, oC) (List.mem_cons_of_mem _ List.mem_cons_self)).1
          have zD := (N₄ (H1.objs.size, LCg.lst ys) (List.mem_cons_of_mem _ (List.mem_cons_of_mem _ List.mem_cons_self))).1
          have Nn₄ : News h₀ L h₄ news := fun p hp => N₄ p (List.mem_cons_of_mem _ (List.mem_cons_of_mem _ (List.mem_cons_of_mem _ hp)))
          refine append_at (hsz := by show ys.toArray.size ≤ sizeLine; rw [List.size_toArray]; exact Nat.le_trans hyl (Nat.le_trans hi hsz)) zD fun h₅ hs₅ hD₅ => ?_
          refine ⟨n + 1 - (i + 1), by omega, h₅, tk₄, i + 1, ys ++ [y], _, rfl, hlt, rfl, by rw [List.length_append, List.length_singleton]; omega, step _ (hs₅.extBut _ _ d2 zI), F₄.change hs₅ (Ne.symm l2) n2,
            (hoC.ns zC).sameBut hs₅ d3, fun p hp => ?_, hP₄⟩
          rcases List.mem_cons.mp hp with rfl | hp
          · exact ⟨hD₅.trans (congrArg some (LCg.lst_snoc ys y)), Ne.symm l2, n2⟩
          · exact ⟨hs₅.extBut _ _ (off3 p hp).2.2 (Nn₄ p hp).1, (Nn₄ p hp).2⟩
        · rename_i hok
          rw [if_neg hok]
          obtain ⟨h₄, tk₄, rfl, F₄, N₄, hP₄⟩ := h₃
          have zI := (N₄ _ List.mem_cons_self).1
          have zC := (N₄ (H2.objs.size, oC) (List.mem_cons_of_mem _ List.mem_cons_self)).1
          exact ⟨n + 1 - (i + 1), by omega, h₄, tk₄, i + 1, ys, _, rfl, hlt, rfl, by omega, step _ zI, F₄, hoC.ns zC, fun p hp => N₄ p (List.mem_cons_of_mem _ (List.mem_cons_of_mem _ hp)), hP₄⟩
      · obtain rfl : i = n := Nat.le_antisymm hi (Nat.not_lt.mp hlt)
        refine wpAny_pyNext_range_end hh hit (by omega) fun h₂ he₂ => ?_
        have keep₂ : ∀ b o, b ≠ s₁.heap.objs.size → h'.get? b = some o → h₂.get? b = some o := fun b o hb e => he₂ b o hb e
        refine ⟨m', hn'.at' fun o e => keep₂ _ _ (Ne.symm d1) e, fun h'' hs'' => fin H1.objs.size ys h'' tk ys.length hP ?_ (fun p hp => ?_) fun p hp => ?_⟩
        · have F₂ : Fr h₀ L h₂ m := ⟨F'.ns.at' fun o e => keep₂ _ _ l1 e, fun b o e => keep₂ b o (fun q => by rw [q, n1] at e; cases e) (F'.keep b o e), F'.above⟩
          exact F₂.change hs'' (Ne.symm l3) n3
        · have z := N' p hp
          refine ⟨?_, z.2⟩
          rcases List.mem_cons.mp hp with rfl | hp
          · exact hs''.extBut _ _ (Ne.symm d3) (keep₂ _ _ (Ne.symm d2) z.1)
          · exact hs''.extBut _ _ (off3 p hp).2.1 (keep₂ _ _ (off3 p hp).1 z.1)
        · have := lt p hp
          show @LT.lt Nat _ p.1 H1.objs.size
          rw [z1]; omega
    · rcases List.mem_cons.mp hp with rfl | hp
      · exact ⟨gD, Ne.symm l2, n2⟩
      · exact N₁ p hp
  exact codeAny_compStart_list (loop _ rfl) (wpAny_pyIter_rangeiter (by simpa using gI) (loop _ rfl))
end
theorem vcall : ∀ v, VCP v := kc.2 ⟨cListComp_T, cListComp_E, cListComp_R⟩
section
variable {prog : Program} {w : World} {A : Around} {E : Value → Shared → Prop} {s : Shared} {h₀ : Heap} {L : Addr} {m : Str → Option Value} {env : Env}
theorem ListComp_T {elt iter : Expr} {x : Str} {px : Pos} {scope : Scope} {cl : List (Str × Addr)} {pos : Pos} {Q : Value → Shared → Prop} (_F₀ : Fr h₀ L s.heap m)
    (hclos : closureFor scope env = pure cl) (hcell : ∀ y ∈ scope.names, y.2 ≠ .cell) (hkind : scope.kind = .function)
    (hnames : ∀ y ∈ scope.names, y.2 = .local → scope.names.lookup y.1 = some .local) (hx : scope.names.lookup x = some .local)
    (h : wpAny (model prog w) A (eval iter env) (CompT prog w A h₀ L m env elt x scope cl Q) E s)
    (hs : ∀ x, foldedSetIterable iter env x = pure x := by intro _; rfl) :
    wpAny (model prog w) A (eval (.ListComp elt [⟨.Name x px, iter, [], 0⟩] scope pos) env) Q E s := by
  rw [eval_ListComp]
  refine wpAny_comprehension_free (use := none) rfl hs hclos hkind hnames (wpAny_mono h (fun xv s₁ h₁ => ?_) fun _ _ e => e)
  show CompGo prog w A E env scope cl Q (.ListComp elt [⟨.Name x px, iter, [], 0⟩] scope pos) xv s₁
  obtain ⟨ax, lo, vs, n, news, rfl, hh, F, N, hm, hc, hd, hsz, PT, hP0, mono, turn, fin⟩ := h₁
  exact (vcall (prog, w, A, E, h₀, L, m, env, elt, x, px, scope, cl, pos, Q, iter, s₁, ax, lo, vs, n, news, PT, K1.x₂, K1.px₂, K1.tp, K1.tk, K1.e, K1.it, K1.P, K1.ifs, K1.r, K1.a₀, K1.b₀, K1.t₀, K1.u₀, K1.v₀)).1 hcell hkind hx hh F N hm hc hd hsz hP0 mono turn fin
theorem ListComp_E {elt iter : Expr} {x x₂ : Str} {px px₂ tp : Pos} {tk : Nat} {scope : Scope} {cl : List (Str × Addr)} {pos : Pos} {Q : Value → Shared → Prop} (_F₀ : Fr h₀ L s.heap m)
    (hclos : closureFor scope env = pure cl) (hcell : ∀ y ∈ scope.names, y.2 ≠ .cell) (hkind : scope.kind = .function)
    (hnames : ∀ y ∈ scope.names, y.2 = .local → scope.names.lookup y.1 = some .local) (hx : scope.names.lookup x = some .local) (hx₂ : scope.names.lookup x₂ = some .local) (hxx : x ≠ x₂)
    (h : wpAny (model prog w) A (eval iter env) (CompE prog w A h₀ L m env elt x x₂ scope cl Q) E s)
    (hs : ∀ x, foldedSetIterable iter env x = pure x := by intro _; rfl) :
    wpAny (model prog w) A (eval (.ListComp elt [⟨.Tuple [.Name x px, .Name x₂ px₂] tk tp, iter, [], 0⟩] scope pos) env) Q E s := by
  rw [eval_ListComp]
  refine wpAny_comprehension_free (use := none) rfl hs hclos hkind hnames (wpAny_mono h (fun xv s₁ h₁ => ?_) fun _ _ e => e)
  show CompGo prog w A E env scope cl Q (.ListComp elt [⟨.Tuple [.Name x px, .Name x₂ px₂] tk tp, iter, [], 0⟩] scope pos) xv s₁
  obtain ⟨e, it, ax, lo, vs, n, news, rfl, hh, F, N, hm, hc, hd, hsz, hen, hli, hei, noff, e0, i0, Le, Li, P, hP0, turn, fin⟩ := h₁
  exact (vcall (prog, w, A, E, h₀, L, m, env, elt, x, px, scope, cl, pos, Q, iter, s₁, ax, lo, vs, n, news, K1.PT, x₂, px₂, tp, tk, e, it, P, K1.ifs, K1.r, K1.a₀, K1.b₀, K1.t₀, K1.u₀, K1.v₀)).2.1 hcell hkind hx hx₂ hxx hh F N hm hc hd hsz hen hli hei noff e0 i0 Le Li hP0 turn fin
theorem ListComp_R {elt iter : Expr} {ifs : List Expr} {x : Str} {px : Pos} {scope : Scope} {cl : List (Str × Addr)} {pos : Pos} {Q : Value → Shared → Prop} (_F₀ : Fr h₀ L s.heap m)
    (hclos : closureFor scope env = pure cl) (hcell : ∀ y ∈ scope.names, y.2 ≠ .cell) (hkind : scope.kind = .function)
    (hnames : ∀ y ∈ scope.names, y.2 = .local → scope.names.lookup y.1 = some .local) (hx : scope.names.lookup x = some .local)
    (h : wpAny (model prog w) A (eval iter env) (CompR prog w A h₀ L m env elt ifs x scope cl Q) E s)
    (hs : ∀ x, foldedSetIterable iter env x = pure x := by intro _; rfl) :
    wpAny (model prog w) A (eval (.ListComp elt [⟨.Name x px, iter, ifs, 0⟩] scope pos) env) Q E s := by
  rw [eval_ListComp]
  refine wpAny_comprehension_free (use := none) rfl hs hclos hkind hnames (wpAny_mono h (fun xv s₁ h₁ => ?_) fun _ _ e => e)
  show CompGo prog w A E env scope cl Q (.ListComp elt [⟨.Name x px, iter, ifs, 0⟩] scope pos) xv s₁
  obtain ⟨r, a₀, b₀, t₀, u₀, v₀, n, news, rfl, hh, F, N, hr, hsm, hn, hsz, P, hP0, turn, fin⟩ := h₁
  exact (vcall (prog, w, A, E, h₀, L, m, env, elt, x, px, scope, cl, pos, Q, iter, s₁, K1.ax, K1.lo, K1.vs, n, news, K1.PT, K1.x₂, K1.px₂, K1.tp, K1.tk, K1.e, K1.it, P, ifs, r, a₀, b₀, t₀, u₀, v₀)).2.2 hcell hkind hx hh F N hr hsm hn hsz hP0 turn fin
end
end
-- LW
theorem again_LW : True := by w_top off; (try walk1); trivial
section
noncomputable def lawBody (w : World) : List Stmt := match (hd.o_277 w.params).data with
  | .func fd => (match fd.body with
    | .stmts b => b
    | _ => [])
  | _ => []
noncomputable def lawScope (w : World) : Scope := match (hd.o_277 w.params).data with
  | .func fd => fd.scope
  | _ => { kind := .function, names := [], isGenerator := false, isCoroutine := false }
noncomputable def hdS : List Stmt → Stmt
  | [] => .Return none ⟨0, 0, 0, 0⟩
  | s :: _ => s
def LawRun (w : World) (L fa : Addr) (ss : List Stmt) (Q : Flow → Shared → Prop) (E : Value → Shared → Prop) (s : Shared) : Prop :=
  wpAny (model PySem.Challenge.rw_tl0033_01.row.prog w) (Around.deeper callerA (envOfC (Str.ofString "law") (lawScope w) L fa (.ref 236))) (execs ss (envOfC (Str.ofString "law") (lawScope w) L fa (.ref 236))) Q E s
def LawOwn (w : World) (L fa : Addr) (E : Value → Shared → Prop) : Prop :=
  PassesOwn (model PySem.Challenge.rw_tl0033_01.row.prog w) (Around.deeper callerA (envOfC (Str.ofString "law") (lawScope w) L fa (.ref 236))) (envOfC (Str.ofString "law") (lawScope w) L fa (.ref 236)) E
theorem fr_k {h₀ h : Heap} {L : Addr} {m : Str → Option Value} (F : Fr h₀ L h m) (ps : List (Str × Value)) (hk : ∀ p ∈ ps, m p.1 = some p.2) : Fr h₀ L h (kstB m ps) := by
  have e : kstB m ps = m := funext fun z => kstB_eq hk fun _ => rfl
  rw [e]; exact F
theorem news_drop3 {h₀ h : Heap} {L : Addr} {a b c : Addr × Obj} {r : List (Addr × Obj)} (N : News h₀ L h (a :: b :: c :: r)) : News h₀ L h (a :: b :: r) := fun q hq => N q (by
  rcases List.mem_cons.mp hq with rfl | hq
  · exact .head _
  · rcases List.mem_cons.mp hq with rfl | hq
    · exact .tail _ (.head _)
    · exact .tail _ (.tail _ (.tail _ hq)))
theorem new_none {h₀ h : Heap} {L : Addr} {m : Str → Option Value} (F : Fr h₀ L h m) : ∀ a, h.objs.size ≤ a → h₀.get? a = none := fun a ha => by
  cases e : h₀.get? a with
  | none => rfl
  | some o' => exact absurd (Heap.lt_size (F.keep a o' e)) (Nat.not_lt.mpr ha)
end
-- LX1
theorem again_LX1 : True := by w_top off; (try walk1); trivial
section
section
variable {prog : Program} {w : World} {A : Around} {E : Value → Shared → Prop} {s : Shared} {h₀ : Heap} {L : Addr} {m : Str → Option Value} {news : List (Addr × Obj)}
theorem range_F1 {n : Int} {t : Tok} {Q : Value → Shared → Prop} (F : Fr h₀ L s.heap m) (N : News h₀ L s.heap news)
    (h : ∀ r h' tk t u v, IsRange h' r 0 n 1 t u v → Fr h₀ L h' m → News h₀ L h' news → s.toks ≤ tk → Q (.ref r) { s with heap := h', toks := tk }) :
    wpAny (model prog w) A (call (.type "range") [.int n t]) Q E s :=
  call_range_1 (h _ _ _ _ _ _ (IsRange.new _ _ _ _ _ _ _) (F.push _) (fun p hp => ⟨Heap.get?_push_of_some _ (N p hp).1, (N p hp).2⟩) (by show s.toks ≤ s.toks + 1 + 1; omega))
theorem range_F2 {a b : Int} {t u : Tok} {Q : Value → Shared → Prop} (F : Fr h₀ L s.heap m) (N : News h₀ L s.heap news)
    (h : ∀ r h' tk t u v, IsRange h' r a b 1 t u v → Fr h₀ L h' m → News h₀ L h' news → s.toks ≤ tk → Q (.ref r) { s with heap := h', toks := tk }) :
    wpAny (model prog w) A (call (.type "range") [.int a t, .int b u]) Q E s :=
  call_range_2 (h _ _ _ _ _ _ (IsRange.new _ _ _ _ _ _ _) (F.push _) (fun p hp => ⟨Heap.get?_push_of_some _ (N p hp).1, (N p hp).2⟩) (by show s.toks ≤ s.toks + 1; omega))
end
noncomputable def insV {α : Type} (l : List α) (j : Nat) (x : α) : List α := l.take j ++ x :: l.drop j
theorem insV_perm {α : Type} (l : List α) (j : Nat) (x : α) : (insV l j x).Perm (x :: l) := by
  unfold insV
  refine List.perm_middle.trans (List.Perm.cons _ ?_)
  rw [List.take_append_drop]
theorem insV_length {α : Type} (l : List α) (j : Nat) (x : α) : (insV l j x).length = l.length + 1 := (insV_perm l j x).length_eq
theorem kl_ins_insV (l : List Value) (j : Nat) (hj : j ≤ l.length) (x : Value) : kl_ins l (j : Int) x = insV l j x := by
  unfold kl_ins insV
  have e : ¬ ((j : Int) < 0) := by omega
  simp only [e, if_false, Int.toNat_natCast, Nat.min_eq_left hj]
theorem insV_ints {vs : List Value} {ns : List Int} (h : IntsAre vs ns) (j : Nat) (x : Int) (t : Tok) : IntsAre (insV vs j (.int x t)) (insV ns j x) := by
  unfold insV
  rw [← List.singleton_append, ← List.singleton_append]
  exact (h.take j).append ((IntsAre.cons _ _ IntsAre.nil).append (h.drop j))
theorem insV_map {α β : Type} (f : α → β) (l : List α) (j : Nat) (x : α) : (insV l j x).map f = insV (l.map f) j (f x) := by
  unfold insV; rw [List.map_append, List.map_cons, List.map_take, List.map_drop]
theorem cnt_all (P : Int → Bool) (ks : List Int) (n : Nat) (hn : n = ks.length) : cnt P ks 0 (n : Int) = ((ks.countP P : Nat) : Int) := by
  unfold cnt
  subst hn
  simp
def Cuts (P : Int → Bool) (x : Int) : Prop := (∀ k, P k = true → k ≤ x) ∧ (∀ k, P k = false → x ≤ k)
theorem cuts_le (x : Int) : Cuts (fun k => decide (k ≤ x)) x := ⟨fun k h => of_decide_eq_true h, fun k h => by have := of_decide_eq_false h; omega⟩
theorem cuts_lt (x : Int) : Cuts (fun k => decide (k < x)) x := ⟨fun k h => by have := of_decide_eq_true h; omega, fun k h => by have := of_decide_eq_false h; omega⟩
theorem insV_sorted {α : Type} (key : α → Int) (P : Int → Bool) (x : α) (hP : Cuts P (key x)) : ∀ (l : List α), l.Pairwise (fun a b => key a ≤ key b) →
    (insV l ((l.map key).countP P) x).Pairwise (fun a b => key a ≤ key b)
  | [], _ => List.pairwise_singleton _ _
  | a :: r, h => by
    have ha : ∀ {b}, b ∈ r → key a ≤ key b := fun hb => List.rel_of_pairwise_cons h hb
    have ih := insV_sorted key P x hP r (List.Pairwise.of_cons h)
    cases e : P (key a) with
    | true =>
      have e2 : insV (a :: r) (((a :: r).map key).countP P) x = a :: insV r ((r.map key).countP P) x := by
        rw [List.map_cons, List.countP_cons_of_pos e]; rfl
      rw [e2]
      refine List.Pairwise.cons (fun b hb => ?_) ih
      rcases List.mem_cons.mp ((insV_perm _ _ _).mem_iff.mp hb) with rfl | hb
      · exact hP.1 _ e
      · exact ha hb
    | false =>
      have e3 : (r.map key).countP P = 0 := by
        rw [List.countP_eq_zero]
        intro k hk
        obtain ⟨b, hb, rfl⟩ := List.mem_map.mp hk
        intro hq
        have h1 := ha hb
        have h2 := hP.1 _ hq
        have h3 := hP.2 _ e
        have : key b = key a := by omega
        rw [this, e] at hq
        cases hq
      have e2 : insV (a :: r) (((a :: r).map key).countP P) x = x :: a :: r := by
        rw [List.map_cons, List.countP_cons_of_neg (by rw [e]; simp), e3]; rfl
      rw [e2]
      refine List.Pairwise.cons (fun b hb => ?_) h
      have h3 := hP.2 _ e
      rcases List.mem_cons.mp hb with rfl | hb
      · exact h3
      · exact Int.le_trans h3 (ha hb)
theorem falls_sorted {P : Int → Bool} {x : Int} (hP : Cuts P x) {ks : List Int} (h : ks.Pairwise (· ≤ ·)) : Falls P ks := by
  refine falls_of (h.imp fun {a b} hab hb => ?_)
  cases e : P a with
  | true => rfl
  | false =>
    have h1 := hP.1 _ hb
    have h2 := hP.2 _ e
    have : a = b := by omega
    rw [this, hb] at e; cases e
noncomputable def spotsL (key : Int → Int) : Nat → List Int
  | 0 => []
  | i + 1 => insV (spotsL key i) (((spotsL key i).map key).countP (fun k => decide (k ≤ key (i : Int)))) (i : Int)
theorem spots_sorted (key : Int → Int) : ∀ i, (spotsL key i).Pairwise (fun a b => key a ≤ key b)
  | 0 => List.Pairwise.nil
  | i + 1 => insV_sorted key _ _ (cuts_le _) _ (spots_sorted key i)
theorem spots_length (key : Int → Int) : ∀ i, (spotsL key i).length = i
  | 0 => rfl
  | i + 1 => by show (insV _ _ _).length = _; rw [insV_length, spots_length key i]
theorem spots_mem (key : Int → Int) : ∀ i : Nat, ∀ e ∈ spotsL key i, 0 ≤ e ∧ e < i
  | 0, e, h => absurd h List.not_mem_nil
  | i + 1, e, h => by
    rcases List.mem_cons.mp ((insV_perm _ _ _).mem_iff.mp h) with rfl | h
    · omega
    · have := spots_mem key i e h; omega
end
-- LX2
theorem again_LX2 : True := by w_top off; (try walk1); trivial
section
section
variable (w : World) (p : Program) (loose : List Str) (mean : ExcName → Option Value) (mg mb : Str → Option Value)
theorem intsare_getD {vs : List Value} {ns : List Int} (h : IntsAre vs ns) : ∀ i : Nat, i < ns.length → ∃ t, vs.getD i .none = .int (ns.getD i 0) t := by
  induction h with
  | nil => intro i hi; exact absurd hi (Nat.not_lt_zero _)
  | cons n t h ih =>
    intro i hi
    cases i with
    | zero => exact ⟨t, rfl⟩
    | succ i => exact ih i (Nat.lt_of_succ_lt_succ hi)
theorem getD_map_lt {α β : Type} (f : α → β) (l : List α) (d : α) (e : β) (i : Nat) (h : i < l.length) : (l.map f).getD i e = f (l.getD i d) := by
  rw [List.getD_eq_getElem?_getD, List.getD_eq_getElem?_getD, List.getElem?_map, List.getElem?_eq_getElem h]; rfl
theorem ir_ints (news news' : List (Addr × Obj)) (l : Addr) (vs : List Value) (ns : List Int) (key : Int → Int) (n : Nat) (x : Int) (t : Tok) (Pk : Int → Prop) (hvs : IntsAre vs ns)
    (U : Upd l (W.listOf vs.toArray n) (W.listOf (insV vs ((ns.map key).countP (fun k => decide (k ≤ key x))) (.int x t)).toArray (n + 1)) news news') (hfit : vs.length ≤ 1000)
    (hsort : ns.Pairwise (fun a b => key a ≤ key b)) (hP : ∀ e ∈ ns, Pk e) (hx : Pk x)
    (nd : Nat) (f : Addr) (hfn : KeyFn w news f) (hlam : ∀ e t, Pk e → Spec w p loose mean mg mb nd news f [.int e t] [] (isI (key e) news)) :
    Spec w p loose mean mg mb (nd + 2) news 65 [.ref l, .int x t] [(Str.ofString "key", .ref f)] (isU news') := by
  have hlen := hvs.length
  have e1 : cnt (fun k => decide (k ≤ key x)) (ns.map key) 0 (vs.length : Int) = (((ns.map key).countP (fun k => decide (k ≤ key x)) : Nat) : Int) := cnt_all _ _ _ (by rw [List.length_map, hlen])
  refine ir_a w p loose mean mg mb news news' l vs (ns.map key) n (.int x t) (key x) ?_ hfit (by rw [List.length_map, hlen]) nd f hfn ((hlam x t hx).needs (Nat.le_succ _)) (fun i hi => ?_) ?_
  · rw [e1, kl_ins_insV]
    · exact U
    · have := List.countP_le_length (p := fun k => decide (k ≤ key x)) (l := ns.map key)
      rw [List.length_map] at this
      omega
  · rw [List.length_map] at hi
    obtain ⟨t', e⟩ := intsare_getD hvs i hi
    rw [e, getD_map_lt key ns 0 0 i hi]
    refine hlam _ _ (hP _ ?_)
    rw [List.getD_eq_getElem?_getD, List.getElem?_eq_getElem hi]
    exact List.getElem_mem hi
  · exact falls_sorted (cuts_le _) (List.pairwise_map.mpr hsort)
end
theorem spots_step {key : Int → Int} {i : Nat} {vs : List Value} (h : IntsAre vs (spotsL key i)) (t : Tok) : IntsAre (insV vs (((spotsL key i).map key).countP (fun k => decide (k ≤ key (i : Int)))) (.int (i : Int) t)) (spotsL key (i + 1)) := insV_ints h _ _ _
end
-- LX3
theorem again_LX3 : True := by w_top off; (try walk1); trivial
section
noncomputable def logGet : List (Nat × Nat × Bool) → Nat → Nat → Option Bool
  | [], _, _ => none
  | e :: r, i, j => match Nat.beq e.1 i && Nat.beq e.2.1 j with
    | true => some e.2.2
    | false => logGet r i j
def LogOk (key : Nat → Int) (log : List (Nat × Nat × Bool)) : Prop := ∀ e ∈ log, decide (key e.1 < key e.2.1) = e.2.2
theorem logGet_ok {key : Nat → Int} : ∀ {log : List (Nat × Nat × Bool)}, LogOk key log → ∀ {i j b}, logGet log i j = some b → decide (key i < key j) = b
  | [], _, _, _, _, h => by cases h
  | e :: r, hl, i, j, b, h => by
    unfold logGet at h
    split at h
    · rename ((_ && _) = true) => he
      rw [Bool.and_eq_true] at he
      have := hl e (.head _)
      rw [Nat.eq_of_beq_eq_true he.1, Nat.eq_of_beq_eq_true he.2] at this
      cases h; exact this
    · exact logGet_ok (log := r) (fun e he => hl e (.tail _ he)) h
noncomputable def ltB (log : List (Nat × Nat × Bool)) (x y : Nat) : Bool := match logGet log x y with
  | some b => b
  | none => false
noncomputable def leB (log : List (Nat × Nat × Bool)) (x y : Nat) : Bool := ltB log x y || match logGet log y x with
  | some b => !b
  | none => false
theorem ltB_ok {key : Nat → Int} {log : List (Nat × Nat × Bool)} (hl : LogOk key log) {x y : Nat} (h : ltB log x y = true) : key x < key y :=
by
  unfold ltB at h
  split at h
  · rename (logGet _ _ _ = some _) => e
    rw [h] at e
    exact of_decide_eq_true (logGet_ok hl e)
  · cases h
theorem leB_ok {key : Nat → Int} {log : List (Nat × Nat × Bool)} (hl : LogOk key log) {x y : Nat} (h : leB log x y = true) : key x ≤ key y := by
  unfold leB at h
  rw [Bool.or_eq_true] at h
  rcases h with h | h
  · exact Int.le_of_lt (ltB_ok hl h)
  · split at h
    · rename (logGet _ _ _ = some _) => e
      rw [Bool.not_eq_true'] at h
      rw [h] at e
      have := of_decide_eq_false (logGet_ok hl e); omega
    · cases h
noncomputable def upR (log : List (Nat × Nat × Bool)) (n : Nat) : Nat → List Nat → List Nat
  | 0, S => S
  | f + 1, S => upR log n f ((List.range n).filter fun z => S.any fun y => Nat.beq y z || leB log y z)
noncomputable def upLt (log : List (Nat × Nat × Bool)) (n : Nat) (S : List Nat) : List Nat := (List.range n).filter fun z => S.any fun y => ltB log y z
theorem upR_ok {key : Nat → Int} {log : List (Nat × Nat × Bool)} (hl : LogOk key log) {n : Nat} {c : Int} : ∀ (f : Nat) {S : List Nat}, (∀ z ∈ S, c ≤ key z) → ∀ z ∈ upR log n f S, c ≤ key z
  | 0, _, h => h
  | f + 1, S, h => upR_ok hl f fun z hz => by
    obtain ⟨_, h2⟩ := List.mem_filter.mp hz
    obtain ⟨y, hy, h3⟩ := List.any_eq_true.mp h2
    rw [Bool.or_eq_true] at h3
    rcases h3 with h3 | h3
    · rw [← Nat.eq_of_beq_eq_true h3]; exact h y hy
    · exact Int.le_trans (h y hy) (leB_ok hl h3)
theorem upLt_ok {key : Nat → Int} {log : List (Nat × Nat × Bool)} (hl : LogOk key log) {n : Nat} {c : Int} {S : List Nat} (h : ∀ z ∈ S, c ≤ key z) : ∀ z ∈ upLt log n S, c + 1 ≤ key z := fun z hz => by
  obtain ⟨_, h2⟩ := List.mem_filter.mp hz
  obtain ⟨y, hy, h3⟩ := List.any_eq_true.mp h2
  have := ltB_ok hl h3
  have := h y hy
  omega
noncomputable def leR (log : List (Nat × Nat × Bool)) (n x y : Nat) : Bool := leB log x y || (upR log n 5 [x]).any fun z => Nat.beq z y
noncomputable def ltR (log : List (Nat × Nat × Bool)) (n x y : Nat) : Bool := ltB log x y || (upR log n 5 (upLt log n (upR log n 5 [x]))).any fun z => Nat.beq z y
theorem leR_ok {key : Nat → Int} {log : List (Nat × Nat × Bool)} (hl : LogOk key log) {n x y : Nat} (h : leR log n x y = true) : key x ≤ key y := by
  unfold leR at h
  rw [Bool.or_eq_true, List.any_eq_true] at h
  rcases h with h | ⟨z, hz, h⟩
  · exact leB_ok hl h
  · rw [← Nat.eq_of_beq_eq_true h]
    exact upR_ok hl 5 (fun z hz => by rw [List.mem_singleton.mp hz]; exact Int.le_refl _) z hz
theorem ltR_ok {key : Nat → Int} {log : List (Nat × Nat × Bool)} (hl : LogOk key log) {n x y : Nat} (h : ltR log n x y = true) : key x < key y := by
  unfold ltR at h
  rw [Bool.or_eq_true, List.any_eq_true] at h
  rcases h with h | ⟨z, hz, h⟩
  · exact ltB_ok hl h
  · rw [← Nat.eq_of_beq_eq_true h]
    have := upR_ok hl 5 (upLt_ok hl (upR_ok hl 5 (c := key x) (fun z hz => by rw [List.mem_singleton.mp hz]; exact Int.le_refl _))) z hz
    omega
noncomputable def before (log : List (Nat × Nat × Bool)) (n x y : Nat) : Bool := (Nat.blt x y && leR log n x y) || ltR log n x y
noncomputable def adjB (log : List (Nat × Nat × Bool)) (n : Nat) : List Nat → Bool
  | [] => true
  | [_] => true
  | x :: y :: r => before log n x y && adjB log n (y :: r)
noncomputable def chk (n : Nat) : KasT (Array Nat) → List (Nat × Nat × Bool) → Bool
  | .ret p, log => p.toList.isPerm (List.range n) && adjB log n p.toList
  | .ask i j k, log => Nat.blt i n && (Nat.blt j n && (match logGet log i j with
    | some b => chk n (k b) log
    | none => chk n (k true) ((i, j, true) :: log) && chk n (k false) ((i, j, false) :: log)))
def Lex (key : Nat → Int) (x y : Nat) : Prop := key x < key y ∨ (key x ≤ key y ∧ x < y)
theorem Lex.trans {key : Nat → Int} {x y z : Nat} (h : Lex key x y) (h' : Lex key y z) : Lex key x z := by
  unfold Lex at *; omega
theorem adj_ok {key : Nat → Int} {log : List (Nat × Nat × Bool)} (hl : LogOk key log) {n : Nat} : ∀ l, adjB log n l = true → l.Pairwise (Lex key)
  | [], _ => .nil
  | [_], _ => List.pairwise_singleton _ _
  | x :: y :: r, h => by
    unfold adjB at h
    rw [Bool.and_eq_true] at h
    have ih := adj_ok hl (y :: r) h.2
    have h1 : Lex key x y := by
      have h1 := h.1
      unfold before at h1
      rw [Bool.or_eq_true, Bool.and_eq_true] at h1
      rcases h1 with ⟨h1, h2⟩ | h1
      · exact .inr ⟨leR_ok hl h2, Nat.blt_eq.mp h1⟩
      · exact .inl (ltR_ok hl h1)
    refine List.Pairwise.cons (fun z hz => ?_) ih
    rcases List.mem_cons.mp hz with rfl | hz
    · exact h1
    · exact h1.trans (List.rel_of_pairwise_cons ih hz)
theorem chk_ok (n : Nat) (key : Nat → Int) {cmp : Nat → Nat → (Bool → Shared → Prop) → Shared → Prop} (hc : ∀ i j C s, i < n → j < n → C (decide (key i < key j)) s → cmp i j C s) {Q : Array Nat → Shared → Prop} {s : Shared}
    (hQ : ∀ p : Array Nat, p.toList.Perm (List.range n) → p.toList.Pairwise (Lex key) → Q p s) : ∀ (t : KasT (Array Nat)) (log : List (Nat × Nat × Bool)), LogOk key log → chk n t log = true → t.kasWp cmp Q s
  | .ret p, log, hl, h => by
    unfold chk at h
    rw [Bool.and_eq_true] at h
    exact hQ p (List.isPerm_iff.mp h.1) (adj_ok hl _ h.2)
  | .ask i j k, log, hl, h => by
    unfold chk at h
    rw [Bool.and_eq_true, Bool.and_eq_true] at h
    obtain ⟨hi, hj, h⟩ := h
    refine hc i j _ s (Nat.blt_eq.mp hi) (Nat.blt_eq.mp hj) ?_
    split at h
    · rename (logGet _ _ _ = some _) => e
      rw [logGet_ok hl e]
      exact chk_ok n key hc hQ _ log hl h
    · rw [Bool.and_eq_true] at h
      cases e : decide (key i < key j) with
      | true => exact chk_ok n key hc hQ _ _ (fun q hq => by
          rcases List.mem_cons.mp hq with rfl | hq
          · exact e
          · exact hl q hq) h.1
      | false => exact chk_ok n key hc hQ _ _ (fun q hq => by
          rcases List.mem_cons.mp hq with rfl | hq
          · exact e
          · exact hl q hq) h.2
theorem chk4 : chk 4 (kas_sort 4) [] = true := by decide +kernel
theorem chk5 : chk 5 (kas_sort 5) [] = true := by decide +kernel
noncomputable def dnT : KasT (Array Nat) → List Bool → KasT (Array Nat)
  | .ask _ _ k, b :: bs => dnT (k b) bs
  | t, _ => t
noncomputable def dnL : KasT (Array Nat) → List Bool → List (Nat × Nat × Bool) → List (Nat × Nat × Bool)
  | .ask i j k, b :: bs, log => dnL (k b) bs ((i, j, b) :: log)
  | _, _, log => log
noncomputable def fresh (n : Nat) : Nat → KasT (Array Nat) → List (Nat × Nat × Bool) → Bool
  | 0, _, _ => true
  | _ + 1, .ret _, _ => false
  | m + 1, .ask i j k, log => Nat.blt i n && (Nat.blt j n && ((logGet log i j).isNone && (fresh n m (k true) ((i, j, true) :: log) && fresh n m (k false) ((i, j, false) :: log))))
theorem chk_of (n : Nat) : ∀ (m : Nat) (t : KasT (Array Nat)) (log : List (Nat × Nat × Bool)), fresh n m t log = true → (∀ bs : List Bool, bs.length = m → chk n (dnT t bs) (dnL t bs log) = true) → chk n t log = true
  | 0, t, log, _, h => by
    have := h [] rfl
    cases t <;> exact this
  | _ + 1, .ret _, _, hf, _ => by unfold fresh at hf; cases hf
  | m + 1, .ask i j k, log, hf, h => by
    unfold fresh at hf
    obtain ⟨h1, hf⟩ := Bool.and_eq_true_iff.mp hf
    obtain ⟨h2, hf⟩ := Bool.and_eq_true_iff.mp hf
    obtain ⟨h3, hf⟩ := Bool.and_eq_true_iff.mp hf
    obtain ⟨h4, h5⟩ := Bool.and_eq_true_iff.mp hf
    have a := chk_of n m (k true) _ h4 fun bs hb => h (true :: bs) (by rw [List.length_cons, hb])
    have b := chk_of n m (k false) _ h5 fun bs hb => h (false :: bs) (by rw [List.length_cons, hb])
    unfold chk
    rw [h1, h2, Option.isNone_iff_eq_none.mp h3]
    show (true && (true && (chk n (k true) _ && chk n (k false) _))) = true
    rw [a, b]
    rfl
theorem chk6tt : chk 6 (dnT (kas_sort 6) [true, true]) (dnL (kas_sort 6) [true, true] []) = true := by decide +kernel
theorem chk6tf : chk 6 (dnT (kas_sort 6) [true, false]) (dnL (kas_sort 6) [true, false] []) = true := by decide +kernel
theorem chk6ft : chk 6 (dnT (kas_sort 6) [false, true]) (dnL (kas_sort 6) [false, true] []) = true := by decide +kernel
theorem chk6ff : chk 6 (dnT (kas_sort 6) [false, false]) (dnL (kas_sort 6) [false, false] []) = true := by decide +kernel
theorem chk6 : chk 6 (kas_sort 6) [] = true := chk_of 6 2 _ _ (by decide +kernel) fun bs hb => by
  match bs, hb with
  | [true, true], _ => exact chk6tt
  | [true, false], _ => exact chk6tf
  | [false, true], _ => exact chk6ft
  | [false, false], _ => exact chk6ff
end
-- LX4
theorem again_LX4 : True := by w_top off; (try walk1); trivial
section
theorem intsare_of : ∀ (ns : List Int) (vs : List Value), vs.length = ns.length → (∀ (j : Nat) v, vs[j]? = some v → ∃ t, v = .int (ns.getD j 0) t) → IntsAre vs ns
  | [], vs, hl, _ => by rw [List.length_eq_zero_iff.mp hl]; exact IntsAre.nil
  | n :: ns, [], hl, _ => by cases hl
  | n :: ns, v :: vs, hl, h => by
    obtain ⟨t, rfl⟩ := h 0 v rfl
    exact IntsAre.cons _ _ (intsare_of ns vs (Nat.succ.inj hl) fun j v hj => h (j + 1) v hj)
section
variable {prog : Program} {w : World} {A : Around} {E : Value → Shared → Prop} {s : Shared}
theorem code_iadd_range {R : Result → Shared → Prop} {r : Addr} {b : Int} {t u v : Tok} {n : Nat} (hh : A.handled = none) (hr : IsRange s.heap r 0 b 1 t u v) (hsmall : Builtin.Range.small 0 b 1 = true)
    (hn : Builtin.Range.rangeSize 0 b 1 = (n : Int)) (hlen : n ≤ 2 ^ 24) (S : Addr) (hS : s.heap.get? S = some { cls := .type "list", data := .seq #[] 0 })
    (hR : ∀ h' tk acc' c', (∀ b o, b ≠ S → s.heap.get? b = some o → h'.get? b = some o) → h'.get? S = some { cls := .type "list", dict := none, data := .seq acc' c', slots := #[] } →
      ItemsOf (fun i v => ∃ t, v = .int (0 + i * 1) t) acc' n → R (.ok (.ret (.ref S))) { s with heap := h', toks := tk }) :
    codeAny (model prog w) A (.builtin "list.__iadd__" ⟨[.ref S, .ref r], []⟩) R s := by
  refine codeAny_builtin entry_list_iadd' ?_
  rw [Around.under_plainId F.plain_list_iadd _]
  exact wpAny_extend_range hh hr hsmall hn hlen S _ 0 hS hR
theorem collect_rangeK {r : Addr} {b : Int} {t u v : Tok} {n : Nat} {Q : List Value → Shared → Prop} (hh : A.handled = none) (hr : IsRange s.heap r 0 b 1 t u v) (hsmall : Builtin.Range.small 0 b 1 = true)
    (hn : Builtin.Range.rangeSize 0 b 1 = (n : Int)) (hlen : n ≤ 1000)
    (h : ∀ h' tk vs, (∀ b o, s.heap.get? b = some o → h'.get? b = some o) → IntsAre vs ((List.range n).map fun i : Nat => (i : Int)) → Q vs { s with heap := h', toks := tk }) :
    wpAny (model prog w) A (collect (.ref r)) Q E s := by
  unfold collect
  refine wpAny_bind (wpAny_runValue (codeAny_builtin entry_proto_collect' ?_))
  show wpAny _ _ (do again (.builtin "list.__iadd__" ⟨[← newList [], .ref r], []⟩)) _ _ s
  refine wpAny_bind (wpAny_newList (wpAny_pure ⟨Code.quiet_builtin _ (by decide +kernel), ?_⟩))
  refine code_iadd_range (s := { s with heap := s.heap.push (seqObj "list" #[] 0) }) hh (Heap.get?_push_of_some _ hr) hsmall hn (by omega) _ (Heap.get?_push_size _ rfl) fun h' tk acc c hk hS hacc => ?_
  show wpAny (model prog w) A (do
      let o ← load s.heap.objs.size
      match o.data with
      | .seq xs _ => pure xs.toList
      | _ => unsupported "internal:collect") Q E { s with heap := h', toks := tk }
  refine wpAny_bind (wpAny_load hS (wpAny_pure ?_))
  refine h h' tk acc.toList (fun b o e => hk b o (Nat.ne_of_lt (Heap.lt_size e)) (Heap.get?_push_of_some _ e)) (intsare_of _ _ ?_ fun j v hj => ?_)
  · rw [List.length_map, List.length_range, Array.length_toList]; exact hacc.1
  · rw [Array.getElem?_toList] at hj
    obtain ⟨t, e⟩ := hacc.2 j v hj
    have hjn : j < n := by
      have := (Array.getElem?_eq_some_iff.mp hj).1
      rw [hacc.1] at this; exact this
    refine ⟨t, ?_⟩
    rw [e, getD_map_lt (fun i : Nat => (i : Int)) (List.range n) 0 0 j (by rw [List.length_range]; exact hjn)]
    have : (List.range n).getD j 0 = j := by rw [List.getD_eq_getElem?_getD, List.getElem?_range hjn]; rfl
    rw [this, Int.zero_add, Int.mul_one]
end
section
variable {prog : Program} {w : World} {A : Around} {E : Value → Shared → Prop} {s : Shared} {h₀ : Heap} {L : Addr} {m : Str → Option Value} {news : List (Addr × Obj)}
theorem kat_keys_go {f : Value} {key : Int → Int} {Pk : Int → Prop} {kS : Addr} {rest : List (Addr × Obj)} {Fin : List Value → Nat → Shared → Prop} (hne : ∀ p ∈ rest, p.1 ≠ kS)
    (hcall : ∀ (s' : Shared) (o : Obj) (e : Int) (t : Tok) (Q' : Value → Shared → Prop) (E' : Value → Shared → Prop), Fr h₀ L s'.heap m → News h₀ L s'.heap ((kS, o) :: rest) → Pk e →
      (∀ h' tk' t', Fr h₀ L h' m → News h₀ L h' ((kS, o) :: rest) → Q' (.int (key e) t') { s' with heap := h', toks := tk' }) → wpAny (model prog w) A (call f [.int e t]) Q' E' s') :
    ∀ (vs : List Value) (ns : List Int), IntsAre vs ns → (∀ e ∈ ns, Pk e) → ∀ (ks : List Value) (kn : List Int) (e : Nat) (h : Heap) (tk : Nat), IntsAre ks kn → Fr h₀ L h m → News h₀ L h ((kS, seqObj "list" (List.toArray ks) e) :: rest) →
      (∀ h' tk' e' ks', Fr h₀ L h' m → News h₀ L h' ((kS, seqObj "list" (List.toArray ks') e') :: rest) → IntsAre ks' (kn ++ ns.map key) → Fin ks' e' { s with heap := h', toks := tk' }) →
      KatKeys prog w A h₀ L m kS f Fin vs ks e { s with heap := h, toks := tk } := by
  intro vs ns hi
  induction hi with
  | nil =>
    intro _ ks kn e h tk hk F N hfin
    exact KatKeys.nil (hfin h tk e ks F N (by rw [List.map_nil, List.append_nil]; exact hk))
  | cons n t hi ih =>
    rename_i vs' ns'
    intro hP ks kn e h tk hk F N hfin
    refine KatKeys.cons (hcall _ _ n t _ _ F N (hP n (.head _)) fun h' tk' t' F' N' => ?_)
    refine KatBack.intro F' N' (.head hne) fun h2 c F2 N2 => ?_
    refine ih (fun e he => hP e (.tail _ he)) (ks ++ [.int (key n) t']) (kn ++ [key n]) c h2 tk' (hk.append (IntsAre.cons _ _ IntsAre.nil)) F2 N2 fun h3 tk3 e3 ks3 F3 N3 hk3 => hfin h3 tk3 e3 ks3 F3 N3 ?_
    rw [List.map_cons, ← List.singleton_append, ← List.append_assoc]
    exact hk3
theorem spots_lex (key : Int → Int) : ∀ i : Nat, (spotsL key i).Pairwise (fun a b => key a < key b ∨ (key a ≤ key b ∧ a < b))
  | 0 => .nil
  | i + 1 => by
    show (insV _ _ _).Pairwise _
    have ih := spots_lex key i
    have hm := spots_mem key i
    generalize spotsL key i = l at ih hm
    induction l with
    | nil => exact List.pairwise_singleton _ _
    | cons a r ih2 =>
      have ha : ∀ {b}, b ∈ r → (key a < key b ∨ (key a ≤ key b ∧ a < b)) := fun hb => List.rel_of_pairwise_cons ih hb
      have ih3 := ih2 (List.Pairwise.of_cons ih) (fun e he => hm e (.tail _ he))
      have hai := hm a (.head _)
      by_cases e : key a ≤ key (i : Int)
      · have e2 : insV (a :: r) (((a :: r).map key).countP (fun k => decide (k ≤ key (i : Int)))) (i : Int) = a :: insV r ((r.map key).countP (fun k => decide (k ≤ key (i : Int)))) (i : Int) := by
          rw [List.map_cons, List.countP_cons_of_pos (by exact decide_eq_true e)]; rfl
        rw [e2]
        refine List.Pairwise.cons (fun b hb => ?_) ih3
        rcases List.mem_cons.mp ((insV_perm _ _ _).mem_iff.mp hb) with rfl | hb
        · exact .inr ⟨e, hai.2⟩
        · exact ha hb
      · have e3 : (r.map key).countP (fun k => decide (k ≤ key (i : Int))) = 0 := by
          rw [List.countP_eq_zero]
          intro k hk
          obtain ⟨b, hb, rfl⟩ := List.mem_map.mp hk
          intro hq
          have h1 := ha hb
          have h2 := of_decide_eq_true hq
          omega
        have e2 : insV (a :: r) (((a :: r).map key).countP (fun k => decide (k ≤ key (i : Int)))) (i : Int) = (i : Int) :: a :: r := by
          rw [List.map_cons, List.countP_cons_of_neg (by rw [decide_eq_true_eq]; exact e), e3]; rfl
        rw [e2]
        refine List.Pairwise.cons (fun b hb => ?_) ih
        rcases List.mem_cons.mp hb with rfl | hb
        · exact .inl (by omega)
        · have := ha hb
          exact .inl (by omega)
theorem spots_perm (key : Int → Int) : ∀ i : Nat, (spotsL key i).Perm ((List.range i).map fun j : Nat => (j : Int))
  | 0 => List.Perm.refl _
  | i + 1 => by
    rw [List.range_succ, List.map_append]
    refine (insV_perm _ _ _).trans ((List.Perm.cons _ (spots_perm key i)).trans ?_)
    exact (List.perm_append_comm (l₁ := [(i : Int)]))
theorem lex_spots (key : Int → Int) (n : Nat) (l : List Nat) (hp : l.Perm (List.range n)) (hl : l.Pairwise (Lex fun i => key (i : Int))) : l.map (fun i : Nat => (i : Int)) = spotsL key n := by
  refine List.Perm.eq_of_pairwise (le := fun a b => key a < key b ∨ (key a ≤ key b ∧ a < b)) (fun a b _ _ h1 h2 => by omega) ?_ (spots_lex key n) ((hp.map _).trans (spots_perm key n).symm)
  rw [List.pairwise_map]
  exact hl.imp fun {a b} h => by dsimp only [Lex] at h ⊢; omega
theorem ints_pick {vs : List Value} {ns : List Int} (h : IntsAre vs ns) : ∀ l : List Nat, (∀ i ∈ l, i < ns.length) → IntsAre (l.map fun i => vs.getD i Value.none) (l.map fun i => ns.getD i 0)
  | [], _ => IntsAre.nil
  | i :: l, hl => by
    obtain ⟨t, e⟩ := intsare_getD h i (hl i (.head _))
    rw [List.map_cons, List.map_cons, e]
    exact IntsAre.cons _ _ (ints_pick h l fun j hj => hl j (.tail _ hj))
theorem chk_all {n : Nat} (h : 4 ≤ n) (h' : n ≤ 6) : chk n (kas_sort n) [] = true := by
  have : n = 4 ∨ n = 5 ∨ n = 6 := by omega
  rcases this with rfl | rfl | rfl
  · exact chk4
  · exact chk5
  · exact chk6
theorem sorted_rangeK {r f : Addr} {b : Int} {t u v : Tok} {key : Int → Int} {Q : Value → Shared → Prop} (F : Fr h₀ L s.heap m) (N : News h₀ L s.heap news) (hr : IsRange s.heap r 0 b 1 t u v) (hb : 4 ≤ b) (hb' : b ≤ 6) (hh : A.handled = none)
    (hcall : ∀ (s' : Shared) (kS D : Addr) (o o' : Obj) (e : Int) (t : Tok) (Q' : Value → Shared → Prop) (E' : Value → Shared → Prop), Fr h₀ L s'.heap m → News h₀ L s'.heap ((kS, o) :: (D, o') :: news) → 0 ≤ e → e < 6 →
      (∀ h' tk' t', Fr h₀ L h' m → News h₀ L h' ((kS, o) :: (D, o') :: news) → Q' (.int (key e) t') { s' with heap := h', toks := tk' }) → wpAny (model prog w) A.in1.in1 (call (.ref f) [.int e t]) Q' E' s')
    (h : ∀ D n vs h' tk, Fr h₀ L h' m → News h₀ L h' ((D, W.listOf vs.toArray n) :: news) → (∀ q ∈ news, q.1 < D) → IntsAre vs (spotsL key b.toNat) → Q (.ref D) { s with heap := h', toks := tk }) :
    wpAny (model prog w) A (call (.builtin "sorted") [.ref r] [(Str.ofString "key", .ref f)]) Q E s := by
  have hn : Builtin.Range.rangeSize 0 b 1 = ((b.toNat : Nat) : Int) := by rw [rangeSize_one]; split <;> omega
  refine call_function_entry_kw kind_sorted plain_sorted entry_sorted (ksk_s1 _ _) ?_
  unfold Builtin.«sorted»
  refine wpAny_bind (m := checkCount "sorted" 1 1 _) (wpAny_pure ?_)
  refine wpAny_bind (collect_rangeK hh hr (small_one (by omega) (by omega) (by omega) (by omega)) hn (by omega) fun h1 tk1 vs hk1 hvs => ?_)
  have hlen := hvs.length
  rw [List.length_map, List.length_range] at hlen
  refine wpAny_bind (wpAny_newList ?_ (by rw [sizeLine_eq]; omega))
  show wpAny _ _ _ _ _ { s with heap := h1.push (seqObj "list" vs.toArray 0), toks := tk1 }
  have F1 := F.kept hk1
  have N1 := N.grown hk1
  have keep : ∀ b o, h1.get? b = some o → (h1.push (seqObj "list" vs.toArray 0)).get? b = some o := fun b o e => Heap.get?_push_of_some _ e
  have hoL : (h1.push (seqObj "list" vs.toArray 0)).get? h1.objs.size = some (seqObj "list" vs.toArray 0) := Heap.get?_push_size _ rfl
  have hltD : ∀ q ∈ news, @LT.lt Nat _ q.1 h1.objs.size := fun q hq => Heap.lt_size (N1 q hq).1
  refine wpAny_bind (wpAny_holding (wpAny_call_entry_kw slot_list_sort ⟨_, hoL, rfl⟩ entry_list_sort ?body (ksk_l1 _ _)))
  case body =>
    show wpAny (model prog w) A.in1.in1 (Builtin.«list.sort» ⟨[.ref h1.objs.size], [(Str.ofString "key", .ref f)]⟩) _ _ _
    rw [ksk_t1]
    refine kat_keyed (s := { s with heap := h1.push (seqObj "list" vs.toArray 0), toks := tk1 }) (F1.kept keep) (N1.grown keep) hoL (Nat.ne_of_gt F1.ns.lt) (Heap.get?_none_of_le (Nat.le_trans F1.above (Nat.le_of_lt F1.ns.lt)))
      (fun p hp => Nat.ne_of_lt (hltD p hp)) (by omega) (by omega) fun kS e1 h2 F2 N2 l0 l1 => ?_
    refine kat_keys_go (s := { s with heap := h2, toks := tk1 }) (Pk := fun e => 0 ≤ e ∧ e < 6) (key := key) (fun p hp => ?_) (fun s' o e t Q' E' F' N' he hq => hcall s' kS _ o _ e t Q' E' F' N' he.1 he.2 hq) vs _ hvs
      (fun e he => ?_) [] [] 0 h2 tk1 IntsAre.nil F2 N2 fun h3 tk3 e3 ks F3 N3 hks => ?_
    · rcases List.mem_cons.mp hp with rfl | hp
      · exact Nat.ne_of_lt l0
      · exact Nat.ne_of_lt (l1 p hp)
    · obtain ⟨j, hj, rfl⟩ := List.mem_map.mp he
      have := List.mem_range.mp hj
      omega
    · rw [List.nil_append, List.map_map] at hks
      have hkl := hks.length
      rw [List.length_map, List.length_range] at hkl
      have hki : IntsAre (List.toArray ks).toList ((List.range b.toNat).map (key ∘ fun i : Nat => (i : Int))) := hks
      dsimp only
      rw [ksk_kind hki (by rw [List.size_toArray]; omega)]
      refine wpAny_pure ?_
      rw [hlen]
      have hkg : ∀ i, i < b.toNat → ∃ t, ks.getD i Value.none = .int (key (i : Int)) t := fun i hi => by
        obtain ⟨t, e⟩ := intsare_getD hks i (by rw [List.length_map, List.length_range]; exact hi)
        refine ⟨t, e.trans ?_⟩
        rw [getD_map_lt _ (List.range b.toNat) 0 0 i (by rw [List.length_range]; exact hi)]
        have : (List.range b.toNat).getD i 0 = i := by rw [List.getD_eq_getElem?_getD, List.getElem?_range hi]; rfl
        rw [this]; rfl
      refine chk_ok b.toNat (fun i => key (i : Int)) (fun i j C s' hi hj hC => ?_) (fun p hp hl => ?_) _ [] (fun _ h => absurd h List.not_mem_nil) (chk_all (by omega) (by omega))
      · show wpAny _ _ (keyLt' oneType' (ks.getD i Value.none) (ks.getD j Value.none)) C _ s'
        obtain ⟨t1, e1⟩ := hkg i hi
        obtain ⟨t2, e2⟩ := hkg j hj
        rw [e1, e2]
        exact kat_lt_int hC
      · refine KatFin.intro F3 N3 (.head fun p hp => ?_) fun h4 c4 F4 N4 => ?_
        · rcases List.mem_cons.mp hp with rfl | hp
          · exact Nat.ne_of_lt l0
          · exact Nat.ne_of_lt (l1 p hp)
        refine KasFin.intro F4 N4 (.tail (Nat.ne_of_gt l0) (.head fun p hp => Nat.ne_of_lt (hltD p hp))) fun h5 c5 F5 N5 => ?_
        refine ⟨_, rfl, wpAny_pure ⟨_, rfl, ?_⟩⟩
        refine h h1.objs.size c5 _ h5 _ F5 (fun q hq => N5 q (.tail _ hq)) hltD ?_
        show IntsAre (p.toList.map fun i => vs.getD i Value.none) _
        rw [← lex_spots key b.toNat p.toList hp hl]
        have z := ints_pick hvs p.toList (fun i hi => by rw [List.length_map, List.length_range]; exact List.mem_range.mp (hp.mem_iff.mp hi))
        have e : (p.toList.map fun i => ((List.range b.toNat).map fun i : Nat => (i : Int)).getD i 0) = p.toList.map fun i : Nat => (i : Int) := List.map_congr_left fun i hi => by
          have hi' := List.mem_range.mp (hp.mem_iff.mp hi)
          rw [getD_map_lt (fun i : Nat => (i : Int)) (List.range b.toNat) 0 0 i (by rw [List.length_range]; exact hi'), List.getD_eq_getElem?_getD, List.getElem?_range hi']; rfl
        rw [e] at z
        exact z
end
section
variable {prog : Program} {w : World} {A : Around} {E : Value → Shared → Prop} {s : Shared} {h₀ : Heap} {L : Addr} {m : Str → Option Value} {news : List (Addr × Obj)}
theorem range_G1 {n : Int} {t : Tok} {Q : Value → Shared → Prop} (F : Fr h₀ L s.heap m) (N : News h₀ L s.heap news)
    (h : ∀ r h' tk t u v, Fr h₀ L h' m → News h₀ L h' ((r, { cls := .type "range", data := .fields #[.int 0 t, .int n u, .int 1 v] }) :: news) → (∀ q ∈ news, q.1 < r) → Q (.ref r) { s with heap := h', toks := tk }) :
    wpAny (model prog w) A (call (.type "range") [.int n t]) Q E s :=
  call_range_1 (h _ _ _ _ _ _ (F.push _) (fun p hp => by
    rcases List.mem_cons.mp hp with rfl | hp
    · exact ⟨Heap.get?_push_size _ rfl, Nat.ne_of_gt F.ns.lt, Heap.get?_none_of_le (Nat.le_trans F.above (Nat.le_of_lt F.ns.lt))⟩
    · exact ⟨Heap.get?_push_of_some _ (N p hp).1, (N p hp).2⟩) (fun q hq => Heap.lt_size (N q hq).1))
end
end
-- LX5
theorem again_LX5 : True := by w_top off; (try walk1); trivial
section
theorem kf_ints_of {vs : List Value} {ns : List Int} (h : IntsAre vs ns) : kf_ints vs = true := by
  induction h with
  | nil => rfl
  | cons n t h ih => exact ih
theorem kf_at_of {k : Int} {vs : List Value} {ns : List Int} (h : IntsAre vs ns) (hk : k ∈ ns) : kf_at k vs = some (ns.idxOf k) := by
  induction h with
  | nil => cases hk
  | cons n t h ih =>
    unfold kf_at
    by_cases e : n = k
    · subst e
      have : isInt n (.int n t) = true := by simp [isInt]
      rw [this, List.idxOf_cons_self]; rfl
    · have : isInt k (.int n t) = false := by simp [isInt, e]
      have hk' : k ∈ _ := (List.mem_cons.mp hk).resolve_left (fun q => e q.symm)
      have hb : (n == k) = false := by simpa using e
      rw [this, ih hk', List.idxOf_cons, hb]; rfl
noncomputable def numF (b : Int) (key : Int → Int) (i : Nat) : Int := (((spotsL key b.toNat).idxOf (i : Int) : Nat) : Int) + b * key (i : Int)
structure NumsOk (b : Int) (nums : List Int) : Prop where
  one : ∃ ranks : List Nat, ranks.Perm (List.range b.toNat) ∧ nums.length = b.toNat ∧ ∀ i, i < b.toNat → ∃ q, nums.getD i 0 = ((ranks.getD i 0 : Nat) : Int) + b * q
theorem idx_range {l : List Int} (hn : l.Nodup) : l.map (fun e => l.idxOf e) = List.range l.length := by
  apply List.ext_getElem
  · rw [List.length_map, List.length_range]
  · intro i h1 h2
    rw [List.getElem_map, List.getElem_range]
    rw [List.length_map] at h1
    exact hn.idxOf_getElem i h1
theorem spots_nodup (key : Int → Int) (n : Nat) : (spotsL key n).Nodup := (spots_lex key n).imp fun {a b} h e => by subst e; omega
theorem nums_ok (b : Int) (key : Int → Int) : NumsOk b ((List.range b.toNat).map (numF b key)) := by
  refine ⟨⟨(List.range b.toNat).map fun i : Nat => (spotsL key b.toNat).idxOf (i : Int), ?_, by rw [List.length_map, List.length_range], fun i hi => ⟨key (i : Int), ?_⟩⟩⟩
  · have h1 := ((spots_perm key b.toNat).map fun e => (spotsL key b.toNat).idxOf e).symm
    rw [idx_range (spots_nodup key _), spots_length, List.map_map] at h1
    exact h1
  · rw [getD_map_lt _ _ 0 0 i (by rw [List.length_range]; exact hi), getD_map_lt _ _ 0 0 i (by rw [List.length_range]; exact hi)]
    have : (List.range b.toNat).getD i 0 = i := by rw [List.getD_eq_getElem?_getD, List.getElem?_range hi]; rfl
    rw [this]; rfl
theorem spots_has (key : Int → Int) {n i : Nat} (h : i < n) : (i : Int) ∈ spotsL key n := (spots_perm key n).mem_iff.mpr (List.mem_map.mpr ⟨i, List.mem_range.mpr h, rfl⟩)
section
variable {prog : Program} {w : World} {A : Around} {E : Value → Shared → Prop} {s : Shared} {h₀ h : Heap} {L D : Addr} {m : Str → Option Value} {news : List (Addr × Obj)} {n : Nat}
theorem index_ints {k : Int} {t : Tok} {vs : List Value} {ns : List Int} {Q : Value → Shared → Prop} (N : News h₀ L s.heap news) (hm : (D, W.listOf vs.toArray n) ∈ news) (hi : IntsAre vs ns) (hk : k ∈ ns) (hz : vs.length ≤ 1000)
    (h : Q (.int ((ns.idxOf k : Nat) : Int) s.toks) { s with toks := s.toks + 1 }) : wpAny (model prog w) A (call (.builtin "list.index") [.ref D, .int k t]) Q E s :=
  kf_index N hm (kf_ints_of hi) (kf_at_of hi hk) rfl (by rw [sizeLine_eq]; show vs.length ≤ _; omega) h
end
end
-- LX6
theorem again_LX6 : True := by w_top off; (try walk1); trivial
section
inductive PairsAre (led : List (Addr × Obj)) (T : Tok → Prop) : List Value → List (Int × Int) → Prop
  | nil : PairsAre led T [] []
  | cons (a : Addr) (x y : Int) (t u : Tok) (n : Nat) {vs : List Value} {ps : List (Int × Int)} : (a, W.listOf [.int x t, .int y u].toArray n) ∈ led → T u → PairsAre led T vs ps → PairsAre led T (.ref a :: vs) ((x, y) :: ps)
namespace PairsAre
variable {led led' : List (Addr × Obj)} {T T' : Tok → Prop} {vs vs' : List Value} {ps ps' : List (Int × Int)}
theorem length (h : PairsAre led T vs ps) : vs.length = ps.length := by
  induction h with
  | nil => rfl
  | cons _ _ _ _ _ _ _ _ _ ih => rw [List.length_cons, List.length_cons, ih]
theorem mono (h : PairsAre led T vs ps) (hs : ∀ q ∈ led, q ∈ led') (ht : ∀ t, T t → T' t) : PairsAre led' T' vs ps := by
  induction h with
  | nil => exact .nil
  | cons a x y t u n hm hT _ ih => exact .cons a x y t u n (hs _ hm) (ht _ hT) ih
theorem append (h : PairsAre led T vs ps) (h' : PairsAre led T vs' ps') : PairsAre led T (vs ++ vs') (ps ++ ps') := by
  induction h with
  | nil => exact h'
  | cons a x y t u n hm hT _ ih => exact .cons a x y t u n hm hT ih
theorem take (h : PairsAre led T vs ps) : ∀ j : Nat, PairsAre led T (vs.take j) (ps.take j) := by
  induction h with
  | nil => intro j; rw [List.take_nil, List.take_nil]; exact .nil
  | cons a x y t u n hm hT _ ih =>
    intro j
    cases j with
    | zero => exact .nil
    | succ j => exact .cons a x y t u n hm hT (ih j)
theorem drop (h : PairsAre led T vs ps) : ∀ j : Nat, PairsAre led T (vs.drop j) (ps.drop j) := by
  induction h with
  | nil => intro j; rw [List.drop_nil, List.drop_nil]; exact .nil
  | cons a x y t u n hm hT h ih =>
    intro j
    cases j with
    | zero => exact .cons a x y t u n hm hT h
    | succ j => exact ih j
theorem ins (h : PairsAre led T vs ps) (j : Nat) {a : Addr} {x y : Int} {t u : Tok} {n : Nat} (hm : (a, W.listOf [.int x t, .int y u].toArray n) ∈ led) (hT : T u) : PairsAre led T (insV vs j (.ref a)) (insV ps j (x, y)) :=
  (h.take j).append (.cons a x y t u n hm hT (h.drop j))
theorem atIx (h : PairsAre led T vs ps) : ∀ i : Nat, i < ps.length → ∃ a t u n, vs.getD i .none = .ref a ∧ (a, W.listOf [.int (ps.getD i (0, 0)).1 t, .int (ps.getD i (0, 0)).2 u].toArray n) ∈ led ∧ T u := by
  induction h with
  | nil => intro i hi; exact absurd hi (Nat.not_lt_zero _)
  | cons a x y t u n hm hT _ ih =>
    intro i hi
    cases i with
    | zero => exact ⟨a, t, u, n, rfl, hm, hT⟩
    | succ i => exact ih i (Nat.lt_of_succ_lt_succ hi)
end PairsAre
section
variable (w : World) (p : Program) (loose : List Str) (mean : ExcName → Option Value) (mg mb : Str → Option Value)
theorem heads_spec (news : List (Addr × Obj)) {T : Tok → Prop} {vs : List Value} {ps : List (Int × Int)} (h : PairsAre news T vs ps) (i : Nat) (hi : i < (ps.map (·.1)).length) :
    Spec w p loose mean mg mb 2 news 190 [vs.getD i .none] [] (isI ((ps.map (·.1)).getD i 0) news) := by
  rw [List.length_map] at hi
  obtain ⟨a, t, u, n, e, hm, _⟩ := h.atIx i hi
  rw [e, getD_map_lt (·.1) ps (0, 0) 0 i hi]
  exact spec_head w p loose mean mg mb news a _ _ _ (IntsAre.cons _ _ (IntsAre.cons _ _ IntsAre.nil)) n hm
theorem tails_spec (news : List (Addr × Obj)) {T : Tok → Prop} {vs : List Value} {ps : List (Int × Int)} (h : PairsAre news T vs ps) (i : Nat) (hi : i < (ps.map (·.2)).length) :
    Spec w p loose mean mg mb 2 news 197 [vs.getD i .none] [] (isI ((ps.map (·.2)).getD i 0) news) := by
  rw [List.length_map] at hi
  obtain ⟨a, t, u, n, e, hm, _⟩ := h.atIx i hi
  rw [e, getD_map_lt (·.2) ps (0, 0) 0 i hi]
  exact spec_tail w p loose mean mg mb news a _ _ _ (IntsAre.cons _ _ (IntsAre.cons _ _ IntsAre.nil)) n hm
theorem ir_pairs (news news' : List (Addr × Obj)) (l a : Addr) (vs : List Value) (ps : List (Int × Int)) (n k : Nat) (x y : Int) (t u : Tok) (T : Tok → Prop) (h : PairsAre news T vs ps) (ha : (a, W.listOf [.int x t, .int y u].toArray k) ∈ news)
    (U : Upd l (W.listOf vs.toArray n) (W.listOf (insV vs ((ps.map (·.1)).countP (fun k => decide (k ≤ x))) (.ref a)).toArray (n + 1)) news news') (hfit : vs.length ≤ 1000) (hsort : (ps.map (·.1)).Pairwise (· ≤ ·)) :
    Spec w p loose mean mg mb 4 news 65 [.ref l, .ref a] [(Str.ofString "key", .ref 190)] (isU news') := by
  have hlen := h.length
  have e1 : cnt (fun k => decide (k ≤ x)) (ps.map (·.1)) 0 (vs.length : Int) = (((ps.map (·.1)).countP (fun k => decide (k ≤ x)) : Nat) : Int) := cnt_all _ _ _ (by rw [List.length_map, hlen])
  refine ir_a w p loose mean mg mb news news' l vs (ps.map (·.1)) n (.ref a) x ?_ hfit (by rw [List.length_map, hlen]) 2 190 (key_head w news) ((spec_head w p loose mean mg mb news a _ _ _ (IntsAre.cons _ _ (IntsAre.cons _ _ IntsAre.nil)) k ha).needs (Nat.le_succ _)) (heads_spec w p loose mean mg mb news h) (falls_sorted (cuts_le _) hsort)
  rw [e1, kl_ins_insV]
  · exact U
  · have := List.countP_le_length (p := fun k => decide (k ≤ x)) (l := ps.map (·.1))
    rw [List.length_map] at this
    omega
theorem il_pairs (news news' : List (Addr × Obj)) (l a : Addr) (vs : List Value) (ps : List (Int × Int)) (n k : Nat) (x y : Int) (t u : Tok) (T : Tok → Prop) (h : PairsAre news T vs ps) (ha : (a, W.listOf [.int x t, .int y u].toArray k) ∈ news)
    (U : Upd l (W.listOf vs.toArray n) (W.listOf (insV vs ((ps.map (·.2)).countP (fun k => decide (k < y))) (.ref a)).toArray (n + 1)) news news') (hfit : vs.length ≤ 1000) (hsort : (ps.map (·.2)).Pairwise (· ≤ ·)) :
    Spec w p loose mean mg mb 4 news 83 [.ref l, .ref a] [(Str.ofString "key", .ref 197)] (isU news') := by
  have hlen := h.length
  have e1 : cnt (fun k => decide (k < y)) (ps.map (·.2)) 0 (vs.length : Int) = (((ps.map (·.2)).countP (fun k => decide (k < y)) : Nat) : Int) := cnt_all _ _ _ (by rw [List.length_map, hlen])
  refine il_a w p loose mean mg mb news news' l vs (ps.map (·.2)) n (.ref a) y ?_ hfit (by rw [List.length_map, hlen]) 2 197 (key_tail w news) ((spec_tail w p loose mean mg mb news a _ _ _ (IntsAre.cons _ _ (IntsAre.cons _ _ IntsAre.nil)) k ha).needs (Nat.le_succ _)) (tails_spec w p loose mean mg mb news h) (falls_sorted (cuts_lt _) hsort)
  rw [e1, kl_ins_insV]
  · exact U
  · have := List.countP_le_length (p := fun k => decide (k < y)) (l := ps.map (·.2))
    rw [List.length_map] at this
    omega
end
noncomputable def ringsGo (lim : Int) : Nat → Int → List Int
  | 0, _ => []
  | f + 1, r => if r < lim then r :: ringsGo lim f (gosper r) else []
noncomputable def ringsOf (b dk : Int) : List Int := ringsGo (1 * 2 ^ b.toNat) 25 (1 * 2 ^ (1 * dk).toNat - 1)
noncomputable def leastOf (b r : Int) : Int := (turnsF b r (b - 1).toNat).2
noncomputable def kStep (b : Int) (acc : List (Int × Int)) (r : Int) : List (Int × Int) := insV acc ((acc.map (·.1)).countP (fun k => decide (k ≤ leastOf b r))) (leastOf b r, r)
noncomputable def kindsOf (b : Int) (rs : List Int) : List (Int × Int) := rs.foldl (kStep b) []
noncomputable def darkOf (nums : List Int) (r : Int) (n : Nat) : List Int := ((List.range n).filter fun i => Builtin.bitAnd (r.fdiv (2 ^ i)) 1 == 1).map fun i => nums.getD i 0
noncomputable def restOf (b dk : Int) (nums : List Int) (r : Int) : Int := ((darkOf nums r b.toNat).sum - (dk * (dk - 1)).fdiv 2).fmod b
noncomputable def rStep (b dk : Int) (nums : List Int) (acc : List (Int × Int)) (r : Int) : List (Int × Int) := insV acc ((acc.map (·.2)).countP (fun k => decide (k < restOf b dk nums r))) (r, restOf b dk nums r)
noncomputable def restsOf (b dk : Int) (nums : List Int) (rs : List Int) : List (Int × Int) := rs.foldl (rStep b dk nums) []
theorem kinds_sorted (b : Int) (rs : List Int) : ((kindsOf b rs).map (·.1)).Pairwise (· ≤ ·) := by
  unfold kindsOf
  rw [List.pairwise_map]
  suffices h : ∀ (rs : List Int) (acc : List (Int × Int)), acc.Pairwise (fun p q => p.1 ≤ q.1) → (rs.foldl (kStep b) acc).Pairwise (fun p q => p.1 ≤ q.1) from h rs [] .nil
  intro rs
  induction rs with
  | nil => exact fun _ h => h
  | cons r rs ih => exact fun acc h => ih _ (insV_sorted (fun p : Int × Int => p.1) _ (leastOf b r, r) (cuts_le _) acc h)
theorem rests_sorted (b dk : Int) (nums rs : List Int) : ((restsOf b dk nums rs).map (·.2)).Pairwise (· ≤ ·) := by
  unfold restsOf
  rw [List.pairwise_map]
  suffices h : ∀ (rs : List Int) (acc : List (Int × Int)), acc.Pairwise (fun p q => p.2 ≤ q.2) → (rs.foldl (rStep b dk nums) acc).Pairwise (fun p q => p.2 ≤ q.2) from h rs [] .nil
  intro rs
  induction rs with
  | nil => exact fun _ h => h
  | cons r rs ih => exact fun acc h => ih _ (insV_sorted (fun p : Int × Int => p.2) _ (r, restOf b dk nums r) (cuts_lt _) acc h)
theorem kinds_snoc (b r : Int) (rs : List Int) : kindsOf b (rs ++ [r]) = kStep b (kindsOf b rs) r := by unfold kindsOf; rw [List.foldl_append]; rfl
theorem rests_snoc (b dk r : Int) (nums rs : List Int) : restsOf b dk nums (rs ++ [r]) = rStep b dk nums (restsOf b dk nums rs) r := by unfold restsOf; rw [List.foldl_append]; rfl
theorem kinds_length (b : Int) (rs : List Int) : (kindsOf b rs).length = rs.length := by
  unfold kindsOf
  suffices h : ∀ (rs : List Int) (acc : List (Int × Int)), (rs.foldl (kStep b) acc).length = acc.length + rs.length from (h rs []).trans (Nat.zero_add _)
  intro rs
  induction rs with
  | nil => exact fun _ => rfl
  | cons r rs ih => intro acc; rw [List.foldl_cons, ih]; unfold kStep; rw [insV_length, List.length_cons]; omega
theorem rests_length (b dk : Int) (nums rs : List Int) : (restsOf b dk nums rs).length = rs.length := by
  unfold restsOf
  suffices h : ∀ (rs : List Int) (acc : List (Int × Int)), (rs.foldl (rStep b dk nums) acc).length = acc.length + rs.length from (h rs []).trans (Nat.zero_add _)
  intro rs
  induction rs with
  | nil => exact fun _ => rfl
  | cons r rs ih => intro acc; rw [List.foldl_cons, ih]; unfold rStep; rw [insV_length, List.length_cons]; omega
theorem six {b dk : Int} (h0 : 4 ≤ b) (h1 : b ≤ 6) (k0 : 2 ≤ dk) (k1 : dk ≤ b - 2) : (b = 4 ∧ dk = 2) ∨ (b = 5 ∧ dk = 2) ∨ (b = 5 ∧ dk = 3) ∨ (b = 6 ∧ dk = 2) ∨ (b = 6 ∧ dk = 3) ∨ (b = 6 ∧ dk = 4) := by omega
noncomputable def turn1 (b r : Int) : Int := (turnF b (r, r)).1
theorem turns_in (b : Int) (R : List Int) (hR : ∀ r ∈ R, turn1 b r ∈ R) (r : Int) (hr : r ∈ R) : ∀ n, (turnsF b r n).1 ∈ R
  | 0 => hr
  | n + 1 => hR _ (turns_in b R hR r hr n)
noncomputable def ringChk (b dk : Int) : Bool := (ringsOf b dk).all fun r => decide (0 < r) && (decide (r < 64) && (ringsOf b dk).elem (turn1 b r))
noncomputable def ringOkB (r : Int) : Bool := decide (0 ≤ Builtin.bitAnd r (-r)) && (decide (Builtin.bitAnd r (-r) < 1000) && (decide (Builtin.bitAnd r (-r) * 2 ^ (2 : Int).toNat ≠ 0) && decide ((Builtin.bitAnd r (-r) * 2 ^ (2 : Int).toNat).natAbs < 1073741824)))
theorem ringOkB_ok {r : Int} (h : ringOkB r = true) : ringOk r := by
  unfold ringOkB at h
  rw [Bool.and_eq_true, Bool.and_eq_true, Bool.and_eq_true] at h
  exact ⟨of_decide_eq_true h.1, of_decide_eq_true h.2.1, of_decide_eq_true h.2.2.1, of_decide_eq_true h.2.2.2⟩
noncomputable def ringsOkB (lim : Int) : Int → List Int → Bool
  | r, [] => !decide (r < lim)
  | r, q :: rest => (decide (r = q) && decide (r < lim)) && (ringOkB r && ringsOkB lim (gosper r) rest)
theorem ringsOkB_ok (lim : Int) : ∀ (l : List Int) (r : Int), ringsOkB lim r l = true → ringsOk lim r l
  | [], r, h => by unfold ringsOkB at h; rw [Bool.not_eq_true'] at h; exact of_decide_eq_false h
  | q :: rest, r, h => by
    unfold ringsOkB at h
    rw [Bool.and_eq_true, Bool.and_eq_true, Bool.and_eq_true] at h
    exact ⟨⟨of_decide_eq_true h.1.1, of_decide_eq_true h.1.2⟩, ringOkB_ok h.2.1, ringsOkB_ok lim rest _ h.2.2⟩
noncomputable def ringsChk (b dk : Int) : Bool := ringsOkB (1 * 2 ^ b.toNat) (1 * 2 ^ (1 * dk).toNat - 1) (ringsOf b dk) && (ringChk b dk && Nat.ble (ringsOf b dk).length 20)
theorem rings_all {b dk : Int} (h0 : 4 ≤ b) (h1 : b ≤ 6) (k0 : 2 ≤ dk) (k1 : dk ≤ b - 2) : ringsChk b dk = true := by
  rcases six h0 h1 k0 k1 with ⟨rfl, rfl⟩ | ⟨rfl, rfl⟩ | ⟨rfl, rfl⟩ | ⟨rfl, rfl⟩ | ⟨rfl, rfl⟩ | ⟨rfl, rfl⟩ <;> decide +kernel
theorem rings_facts {b dk : Int} (h0 : 4 ≤ b) (h1 : b ≤ 6) (k0 : 2 ≤ dk) (k1 : dk ≤ b - 2) : ringsOk (1 * 2 ^ b.toNat) (1 * 2 ^ (1 * dk).toNat - 1) (ringsOf b dk) ∧ (ringsOf b dk).length ≤ 20 ∧
    ∀ r ∈ ringsOf b dk, 0 < r ∧ r < 64 ∧ ∀ n, 0 ≤ (turnsF b r n).1 ∧ (turnsF b r n).1 < 64 := by
  have h := rings_all h0 h1 k0 k1
  unfold ringsChk ringChk at h
  rw [Bool.and_eq_true, Bool.and_eq_true, List.all_eq_true] at h
  have z : ∀ r ∈ ringsOf b dk, 0 < r ∧ r < 64 ∧ turn1 b r ∈ ringsOf b dk := fun r hr => by
    have := h.2.1 r hr
    rw [Bool.and_eq_true, Bool.and_eq_true, decide_eq_true_eq, decide_eq_true_eq, List.elem_eq_mem, decide_eq_true_eq] at this
    exact this
  refine ⟨ringsOkB_ok _ _ _ h.1, Nat.le_of_ble_eq_true h.2.2, fun r hr => ⟨(z r hr).1, (z r hr).2.1, fun n => ?_⟩⟩
  have := z _ (turns_in b _ (fun r hr => (z r hr).2.2) r hr n)
  omega
end
-- LX7
theorem again_LX7 : True := by w_top off; (try walk1); trivial
section
section
variable {w : World} {p : Program} {loose : List Str} {mean : ExcName → Option Value} {mg mb : Str → Option Value} {need : Nat} {news news' : List (Addr × Obj)} {f : Addr} {vs : List Value} {kw : List (Str × Value)}
    {dp un : Nat} {gd : Option (List Code)} {cn : Str} {cs : Scope} {a : Addr} {ccd : Value} {cl : List (Str × Addr)} {outer : List Env} {A₀ : Around} {base h₀ : Heap} {L : Addr} {m : Str → Option Value} {s : Shared} {Q E : Value → Shared → Prop}
theorem Spec.useUT (S : Spec w p loose mean mg mb need news f vs kw (isU news'))
    (B : Below A₀ base outer h₀) (F : Fr h₀ L s.heap m) (X : (hd.heap_39 w.params).In h₀) (N : News h₀ L s.heap news) (T : Top p loose mean mg mb h₀) (hk : cs.kind = .function) (hd : dp + need < recursionLimit) (hu : un + 8 * need < cLine)
    (ret : ∀ h' tk', @LE.le Nat _ s.toks tk' → Fr h₀ L h' m → News h₀ L h' news' → Q .none { s with heap := h', toks := tk' }) :
    wpAny (model PySem.Challenge.rw_tl0033_01.row.prog w) (ktrTop dp un gd cn cs L a ccd cl outer) (call (.ref f) vs kw) Q E s :=
  wpAny_toks (S.use B F X N T hk hd hu fun r nw h' tk' F' N' P hle => by
    obtain ⟨rfl, rfl⟩ := P
    exact ret h' tk' hle F' N')
theorem Spec.useIT {x : Int} (S : Spec w p loose mean mg mb need news f vs kw (isI x news))
    (B : Below A₀ base outer h₀) (F : Fr h₀ L s.heap m) (X : (hd.heap_39 w.params).In h₀) (N : News h₀ L s.heap news) (T : Top p loose mean mg mb h₀) (hk : cs.kind = .function) (hd : dp + need < recursionLimit) (hu : un + 8 * need < cLine)
    (ret : ∀ t h' tk', @LE.le Nat _ s.toks tk' → Fr h₀ L h' m → News h₀ L h' news → Q (.int x t) { s with heap := h', toks := tk' }) :
    wpAny (model PySem.Challenge.rw_tl0033_01.row.prog w) (ktrTop dp un gd cn cs L a ccd cl outer) (call (.ref f) vs kw) Q E s :=
  wpAny_toks (S.use B F X N T hk hd hu fun r nw h' tk' F' N' P hle => by
    obtain ⟨⟨t, rfl⟩, rfl⟩ := P
    exact ret t h' tk' hle F' N')
end
structure RingW (b dk : Int) (nums R : List Int) (RLa : Addr) (rest : List Value) (c : List Value × Nat × List Value × Nat × Obj × List (Addr × Obj)) (tk : Nat) : Prop where
  one : ∃ don rs, don ++ rs = R ∧ IntsAre rest rs ∧ PairsAre c.2.2.2.2.2 (fun _ => True) c.1 (kindsOf b don) ∧ PairsAre c.2.2.2.2.2 (fun u => @LT.lt Nat _ 0 u ∧ @LT.lt Nat _ u tk) c.2.2.1 (restsOf b dk nums don) ∧ (∀ q ∈ c.2.2.2.2.2, @LT.lt Nat _ RLa q.1) ∧ ∃ ov, c.2.2.2.2.1.data = .cell ov
theorem intsare_cons {v : Value} {r : List Value} {rs : List Int} (h : IntsAre (v :: r) rs) : ∃ q t rs', v = .int q t ∧ rs = q :: rs' ∧ IntsAre r rs' := by
  cases h with
  | cons n t h => exact ⟨n, t, _, rfl, rfl, h⟩
theorem wpAny_toksE {α : Type} {M : Model} {A : Around} {t : Sem α} {Q : α → Shared → Prop} {E : Value → Shared → Prop} {s : Shared}
    (h : wpAny M A t (fun a s' => @LE.le Nat _ s.toks s'.toks → Q a s') E s) : wpAny M A t Q E s := wpAny_toks (wpAny_mono h (fun _ _ q => q) fun _ _ e _ => e)
theorem dark_yes {nums : List Int} {q : Int} {i : Nat} {ys : List Value} (h : Builtin.bitAnd (Int.fdiv q (2 ^ Int.toNat (i : Int))) 1 = 1) (hP : IntsAre ys (darkOf nums q i)) (t : Tok) : IntsAre (ys ++ [.int (nums.getD (Int.toNat (i : Int)) 0) t]) (darkOf nums q (i + 1)) := by
  have e : darkOf nums q (i + 1) = darkOf nums q i ++ [nums.getD i 0] := by
    unfold darkOf
    have h' : (Builtin.bitAnd (q.fdiv (2 ^ i)) 1 == 1) = true := beq_iff_eq.mpr h
    rw [List.range_succ, List.filter_append, List.map_append]
    simp only [List.filter_cons, h', if_true, List.filter_nil, List.map_cons, List.map_nil]
  rw [e]
  exact hP.append (IntsAre.cons _ _ IntsAre.nil)
theorem dark_no {nums : List Int} {q : Int} {i : Nat} {ys : List Value} (h : Builtin.bitAnd (Int.fdiv q (2 ^ Int.toNat (i : Int))) 1 ≠ 1) (hP : IntsAre ys (darkOf nums q i)) : IntsAre ys (darkOf nums q (i + 1)) := by
  have e : darkOf nums q (i + 1) = darkOf nums q i := by
    unfold darkOf
    have h' : (Builtin.bitAnd (q.fdiv (2 ^ i)) 1 == 1) = false := beq_eq_false_iff_ne.mpr h
    rw [List.range_succ, List.filter_append, List.map_append]
    simp only [List.filter_cons, h', if_false, List.filter_nil, List.map_nil, List.append_nil, Bool.false_eq_true]
  rw [e]; exact hP
end
-- LX8
theorem again_LX8 : True := by w_top off; (try walk1); trivial
section
open MeetsSeq MeetsSeq3
section
variable (l b : Addr) (I J : Array Value) (x1 y1 x0 y0 : Int) (t1 u1 t0 u0 : Tok) (n n2 : Nat)
theorem lt_loop_end (hI2 : I[2]? = none) (hI : I.size = 2) (hJ : J.size = 2) : Meets (Builtin.«list.__eq__.loop» ⟨[.ref l, .ref b, rawInt 2, rawInt 0], []⟩)
      (fun _ R s => s.heap.get? l = some (W.listOf I n) ∧ s.heap.get? b = some (W.listOf J n2) ∧ R (.ok (.ret (.bool false))) s) := by
  intro prog w A R s h
  obtain ⟨hp, g, d, tk, os⟩ := s; obtain ⟨hl, hb, h⟩ := h
  wp_walk using AutoSeq1.wpAny_loadPart' hl, AutoSeq1.wpAny_loadPart' hb
  have hi1 : I[Int.toNat 2]? = none := hI2
  rw [hi1]
  wp_walk using AutoSeq1.wpAny_loadPart' hl, AutoSeq1.wpAny_loadPart' hb
  show R (.ok (.ret (.bool (decide (I.size < J.size))))) _
  rw [hI, hJ]; exact h
theorem lt_loop_1 (hI2 : I[2]? = none) (hI : I.size = 2) (hJ : J.size = 2) (a1 : I[1]? = some (.int y1 u1)) (b1 : J[1]? = some (.int y0 u0)) : Meets (Builtin.«list.__eq__.loop» ⟨[.ref l, .ref b, rawInt 1, rawInt 0], []⟩)
      (fun _ R s => s.heap.get? l = some (W.listOf I n) ∧ s.heap.get? b = some (W.listOf J n2) ∧ R (.ok (.ret (.bool (decide (y1 < y0))))) s) := by
  intro prog w A R s h
  obtain ⟨hp, g, d, tk, os⟩ := s; obtain ⟨hl, hb, h⟩ := h
  wp_walk using AutoSeq1.wpAny_loadPart' hl, AutoSeq1.wpAny_loadPart' hb
  have hi1 : I[Int.toNat 1]? = some (.int y1 u1) := a1
  have hj1 : J[Int.toNat 1]? = some (.int y0 u0) := b1
  rw [hi1, hj1]
  refine wpAny_bind (EqGives.int _ _ _ _ prog w _ _ _ _ ?_)
  cases hb' : (y1 == y0) with
  | true =>
    have e : decide (y1 < y0) = false := by rw [beq_iff_eq.mp hb']; simp
    rw [e] at h
    wp_walk
    exact ⟨plainId_quiet plain_eq_loop _, codeAny_builtin entry_eq_loop (by
        rw [Around.under_plainId plain_eq_loop _]
        exact lt_loop_end l b I J n n2 hI2 hI hJ prog w A R _ ⟨hl, hb, h⟩)⟩
  | false =>
    wp_walk using AutoSeq1.wpAny_loadPart' hl, AutoSeq1.wpAny_loadPart' hb
    rw [hi1, hj1]
    refine wpAny_bind (m := richCompare .Lt _ _) (PyProof.Rows.lt_int ?_)
    exact wpAny_pure h
theorem lt_loop_0 (hI2 : I[2]? = none) (hI : I.size = 2) (hJ : J.size = 2) (a1 : I[1]? = some (.int y1 u1)) (b1 : J[1]? = some (.int y0 u0)) (a0 : I[0]? = some (.int x1 t1)) (b0 : J[0]? = some (.int x0 t0)) : Meets (Builtin.«list.__eq__.loop» ⟨[.ref l, .ref b, rawInt 0, rawInt 0], []⟩)
      (fun _ R s => s.heap.get? l = some (W.listOf I n) ∧ s.heap.get? b = some (W.listOf J n2) ∧ R (.ok (.ret (.bool (decide (x1 < x0 ∨ (x1 = x0 ∧ y1 < y0)))))) s) := by
  intro prog w A R s h
  obtain ⟨hp, g, d, tk, os⟩ := s; obtain ⟨hl, hb, h⟩ := h
  wp_walk using AutoSeq1.wpAny_loadPart' hl, AutoSeq1.wpAny_loadPart' hb
  have hi1 : I[Int.toNat 0]? = some (.int x1 t1) := a0
  have hj1 : J[Int.toNat 0]? = some (.int x0 t0) := b0
  rw [hi1, hj1]
  refine wpAny_bind (EqGives.int _ _ _ _ prog w _ _ _ _ ?_)
  cases hb' : (x1 == x0) with
  | true =>
    have e : decide (x1 < x0 ∨ (x1 = x0 ∧ y1 < y0)) = decide (y1 < y0) := by rw [beq_iff_eq.mp hb']; simp
    rw [e] at h
    wp_walk
    exact ⟨plainId_quiet plain_eq_loop _, codeAny_builtin entry_eq_loop (by
        rw [Around.under_plainId plain_eq_loop _]
        exact lt_loop_1 l b I J y1 y0 u1 u0 n n2 hI2 hI hJ a1 b1 prog w A R _ ⟨hl, hb, h⟩)⟩
  | false =>
    have e : decide (x1 < x0 ∨ (x1 = x0 ∧ y1 < y0)) = decide (x1 < x0) := by have := beq_eq_false_iff_ne.mp hb'; simp [this]
    rw [e] at h
    wp_walk using AutoSeq1.wpAny_loadPart' hl, AutoSeq1.wpAny_loadPart' hb
    rw [hi1, hj1]
    refine wpAny_bind (m := richCompare .Lt _ _) (PyProof.Rows.lt_int ?_)
    exact wpAny_pure h
theorem list_lt2 (hI2 : I[2]? = none) (hI : I.size = 2) (hJ : J.size = 2) (a1 : I[1]? = some (.int y1 u1)) (b1 : J[1]? = some (.int y0 u0)) (a0 : I[0]? = some (.int x1 t1)) (b0 : J[0]? = some (.int x0 t0)) : Meets (Builtin.«list.__lt__» ⟨[.ref l, .ref b], []⟩)
      (fun _ R s => s.heap.get? l = some (W.listOf I n) ∧ s.heap.get? b = some (W.listOf J n2) ∧ R (.ok (.ret (.bool (decide (x1 < x0 ∨ (x1 = x0 ∧ y1 < y0)))))) s) := by
  intro prog w A R s h
  obtain ⟨hp, g, d, tk, os⟩ := s; obtain ⟨hl, hb, h⟩ := h
  have f3 := AutoSeq1.sub_list_list
  wp_walk using AutoSeq1.wpAny_loadPart' hl, AutoSeq1.wpAny_loadPart' hb
  exact ⟨plainId_quiet plain_eq_loop _, codeAny_builtin entry_eq_loop (by
    rw [Around.under_plainId plain_eq_loop _]
    exact lt_loop_0 l b I J x1 y1 x0 y0 t1 u1 t0 u0 n n2 hI2 hI hJ a1 b1 a0 b0 prog w A R _ ⟨hl, hb, h⟩)⟩
end
theorem lt_pairs {prog : Program} {w : World} {A : Around} {E : Value → Shared → Prop} {s : Shared} {l b : Addr} {x1 y1 x0 y0 : Int} {t1 u1 t0 u0 : Tok} {n n2 : Nat} {Q : Value → Shared → Prop}
    (hl : s.heap.get? l = some (W.listOf [.int x1 t1, .int y1 u1].toArray n)) (hb : s.heap.get? b = some (W.listOf [.int x0 t0, .int y0 u0].toArray n2)) (hu : A.units < cLine)
    (h : Q (.bool (decide (x1 < x0 ∨ (x1 = x0 ∧ y1 < y0)))) s) : wpAny (model prog w) A (compareOp .Lt (.ref l) (.ref b)) Q E s := by
  show wpAny _ _ (richCompare .Lt (.ref l) (.ref b)) Q E s
  exact richCompare_meets_room (op := .Lt) ⟨_, hl, rfl⟩ ⟨_, hb, rfl⟩ F.slot_list_lt F.entry_list_lt (F.args_list_lt_2 _ _) (list_lt2 l b _ _ x1 y1 x0 y0 t1 u1 t0 u0 n n2 rfl rfl rfl rfl rfl rfl rfl)
    ⟨hl, hb, (show Value.bool (decide (x1 < x0 ∨ (x1 = x0 ∧ y1 < y0))) ≠ Value.notImplemented ∧ Q _ s from ⟨(fun x => nomatch x), h⟩)⟩ hu
end
-- LX9
theorem again_LX9 : True := by w_top off; (try walk1); trivial
section
section
variable {prog : Program} {w : World} {A : Around} {E : Value → Shared → Prop} {s : Shared} {h₀ : Heap} {L : Addr} {m : Str → Option Value} {news : List (Addr × Obj)}
theorem lt_list2 {l b : Addr} {x1 y1 x0 y0 : Int} {t1 u1 t0 u0 : Tok} {n n2 : Nat} {Q : Bool → Shared → Prop}
    (hl : s.heap.get? l = some (W.listOf [.int x1 t1, .int y1 u1].toArray n)) (hb : s.heap.get? b = some (W.listOf [.int x0 t0, .int y0 u0].toArray n2)) (hu : A.units < cLine)
    (h : Q (decide (x1 < x0 ∨ (x1 = x0 ∧ y1 < y0))) s) : wpAny (model prog w) A (keyLt' oneType' (.ref l) (.ref b)) Q E s := by
  rw [keyLt'_oneType, oneLt'_eq]
  simp only [if_true]
  refine wpAny_bind (wpAny_cRoomFor hu ?_)
  refine wpAny_bind (wpAny_callSpecialIfBound?_slot ⟨_, hl, rfl⟩ F.slot_list_lt (call_meets F.slot_list_lt ⟨_, hl, rfl⟩ F.entry_list_lt (F.args_list_lt_2 _ _) (list_lt2 l b _ _ x1 y1 x0 y0 t1 u1 t0 u0 n n2 rfl rfl rfl rfl rfl rfl rfl) ⟨hl, hb, ?_⟩))
  exact wpAny_truthy_bool h
theorem eqB_ref {a : Addr} {Q : Bool → Shared → Prop} (h : Q true s) : wpAny (model prog w) A (eqBool (.ref a) (.ref a)) Q E s := by
  unfold eqBool
  have e : (Value.ref a == Value.ref a) = true := by simp
  refine wpAny_holding ?_
  rw [if_pos e]
  exact wpAny_bind (m := rule "eq-bool.same-object") (wpAny_rule (wpAny_pure h))
theorem kas_asc_id {n : Nat} {cmp : Nat → Nat → (Bool → Shared → Prop) → Shared → Prop} (hc : ∀ i C, 0 < i → i < n → C false s → cmp i (i - 1) C s) {G : Nat → Shared → Prop} : ∀ (f k : Nat), 1 ≤ k → k + f ≤ n → G (k + f) s → (kas_asc (List.toArray (List.range n)) f k).kasWp cmp G s
  | 0, k, _, _, h => h
  | f + 1, k, h1, h2, h => by
    have e : ∀ j, j < n → (List.toArray (List.range n)).getD j 0 = j := fun j hj => by simp [Array.getD, hj]
    unfold kas_asc
    rw [e k (by omega), e (k - 1) (by omega)]
    refine hc k _ (by omega) (by omega) ?_
    show (kas_asc _ f (k + 1)).kasWp cmp G s
    exact kas_asc_id hc f (k + 1) (by omega) (by omega) (by rw [Nat.add_assoc, Nat.add_comm 1 f]; exact h)
theorem kas_id {n : Nat} (h2 : 2 ≤ n) {cmp : Nat → Nat → (Bool → Shared → Prop) → Shared → Prop} (hc : ∀ i C, 0 < i → i < n → C false s → cmp i (i - 1) C s) {G : Array Nat → Shared → Prop} (h : G (List.toArray (List.range n)) s) : (kas_sort n).kasWp cmp G s := by
  unfold kas_sort kas_count
  rw [KasT.kasWp_bind, KasT.kasWp_bind]
  refine kas_asc_id hc (n - 1) 1 (Nat.le_refl _) (by omega) ?_
  have e : 1 + (n - 1) = n := by omega
  rw [e]
  simp only [beq_self_eq_true, if_true]
  show (if n < n then _ else KasT.ret (List.toArray (List.range n))).kasWp cmp G s
  rw [if_neg (Nat.lt_irrefl n)]
  exact h
theorem pick_id (vs : List Value) : ((List.toArray (List.range vs.length)).toList.map fun i => vs.getD i Value.none) = vs := by
  show ((List.range vs.length).map fun i => vs.getD i Value.none) = vs
  apply List.ext_getElem
  · rw [List.length_map, List.length_range]
  · intro i h1 h2
    rw [List.getElem_map, List.getElem_range, List.getD_eq_getElem?_getD, List.getElem?_eq_getElem h2]; rfl
theorem sorted_pairs {l : Addr} {vs : List Value} {ps : List (Int × Int)} {n : Nat} {T : Tok → Prop} {Q : Value → Shared → Prop} (F : Fr h₀ L s.heap m) (N : News h₀ L s.heap news) (hm : (l, W.listOf vs.toArray n) ∈ news) (hp : PairsAre news T vs ps) (h2 : 2 ≤ ps.length) (h64 : ps.length < 64) (hu : A.in1.in1.units < cLine)
    (hs : ∀ i, 0 < i → i < ps.length → ¬ ((ps.getD i (0, 0)).1 < (ps.getD (i - 1) (0, 0)).1 ∨ ((ps.getD i (0, 0)).1 = (ps.getD (i - 1) (0, 0)).1 ∧ (ps.getD i (0, 0)).2 < (ps.getD (i - 1) (0, 0)).2)))
    (h : ∀ D k h', Fr h₀ L h' m → News h₀ L h' ((D, W.listOf vs.toArray k) :: news) → (∀ q ∈ news, q.1 < D) → Q (.ref D) { s with heap := h' }) :
    wpAny (model prog w) A (call (.builtin "sorted") [.ref l]) Q E s := by
  have hlen := hp.length
  refine kat_sorted F N ⟨_, (N _ hm).1, rfl, n, rfl⟩ (by omega) (by omega) fun D e1 h' F' N' hD => ?_
  have hT : ∀ v ∈ vs, Looks (model prog w) h' (typeOf v) (.type "list") := fun v hv => by
    obtain ⟨i, hi, rfl⟩ := List.getElem_of_mem hv
    obtain ⟨a, t, u, k, e, hm', _⟩ := hp.atIx i (by omega)
    rw [List.getD_eq_getElem?_getD, List.getElem?_eq_getElem hi] at e
    rw [show vs[i] = .ref a from e]
    exact (Looks.ld (N' _ (.tail _ hm')).1).andThen .now
  refine kas_kind (by omega) hT (by decide) (by decide) ?_
  refine kas_id (by omega) (fun i C h0 hi hC => ?_) ?_
  · show wpAny _ _ (keyLt' oneType' (vs.getD i Value.none) (vs.getD (i - 1) Value.none)) C _ _
    obtain ⟨a1, t1, u1, k1, e1, hm1, _⟩ := hp.atIx i (by omega)
    obtain ⟨a2, t2, u2, k2, e2, hm2, _⟩ := hp.atIx (i - 1) (by omega)
    rw [e1, e2]
    refine lt_list2 (N' _ (.tail _ hm1)).1 (N' _ (.tail _ hm2)).1 hu ?_
    rw [decide_eq_false (hs i h0 (by omega))]
    exact hC
  · refine KasFin.intro F' N' (.head fun p hp => Nat.ne_of_lt (hD p hp)) fun h5 c5 F5 N5 => ?_
    rw [pick_id] at N5
    exact h D c5 h5 F5 N5 hD
end
end
-- LX10
theorem again_LX10 : True := by w_top off; (try walk1); trivial
section
inductive TupsAre (led : List (Addr × Obj)) : List Value → List (Int × Int) → Prop
  | nil : TupsAre led [] []
  | cons (a : Addr) (x y : Int) (t u : Tok) {vs : List Value} {ps : List (Int × Int)} : (a, tup2 x y t u) ∈ led → TupsAre led vs ps → TupsAre led (.ref a :: vs) ((x, y) :: ps)
namespace TupsAre
variable {led led' : List (Addr × Obj)} {vs vs' : List Value} {ps ps' : List (Int × Int)}
theorem length (h : TupsAre led vs ps) : vs.length = ps.length := by
  induction h with
  | nil => rfl
  | cons _ _ _ _ _ _ _ ih => rw [List.length_cons, List.length_cons, ih]
theorem mono (h : TupsAre led vs ps) (hs : ∀ q ∈ led, q ∈ led') : TupsAre led' vs ps := by
  induction h with
  | nil => exact .nil
  | cons a x y t u hm _ ih => exact .cons a x y t u (hs _ hm) ih
theorem append (h : TupsAre led vs ps) (h' : TupsAre led vs' ps') : TupsAre led (vs ++ vs') (ps ++ ps') := by
  induction h with
  | nil => exact h'
  | cons a x y t u hm _ ih => exact .cons a x y t u hm ih
theorem atIx (h : TupsAre led vs ps) : ∀ i : Nat, i < ps.length → ∃ a t u, vs.getD i .none = .ref a ∧ (a, tup2 (ps.getD i (0, 0)).1 (ps.getD i (0, 0)).2 t u) ∈ led := by
  induction h with
  | nil => intro i hi; exact absurd hi (Nat.not_lt_zero _)
  | cons a x y t u hm _ ih =>
    intro i hi
    cases i with
    | zero => exact ⟨a, t, u, rfl, hm⟩
    | succ i => exact ih i (Nat.lt_of_succ_lt_succ hi)
theorem kats {h₀ h : Heap} {L : Addr} (t : TupsAre led vs ps) (N : News h₀ L h led) : ∃ fs, KatTups h vs fs ∧ fs.length = ps.length ∧ ∀ v ∈ fs, ∃ x t, v = Value.int x t := by
  induction t with
  | nil => exact ⟨[], KatTups.nil, rfl, fun v hv => absurd hv List.not_mem_nil⟩
  | cons a x y t u hm _ ih =>
    obtain ⟨fs, h1, h2, h3⟩ := ih
    refine ⟨.int x t :: fs, KatTups.cons (N _ hm).1 rfl rfl rfl h1, by rw [List.length_cons, List.length_cons, h2], fun v hv => ?_⟩
    rcases List.mem_cons.mp hv with rfl | hv
    · exact ⟨x, t, rfl⟩
    · exact h3 v hv
end TupsAre
section
variable {prog : Program} {w : World} {A : Around} {E : Value → Shared → Prop} {s : Shared} {h₀ : Heap} {L : Addr} {m : Str → Option Value} {news : List (Addr × Obj)}
theorem lt_tups {l b : Addr} {x1 y1 x0 y0 : Int} {t1 u1 t0 u0 : Tok} {Q : Bool → Shared → Prop} (hl : s.heap.get? l = some (tup2 x1 y1 t1 u1)) (hb : s.heap.get? b = some (tup2 x0 y0 t0 u0))
    (h : Q (decide (x1 < x0 ∨ (x1 = x0 ∧ y1 < y0))) s) : wpAny (model prog w) A (keyLt' (tuples' true) (.ref l) (.ref b)) Q E s := by
  refine kat_lt hl rfl hb rfl (kat_cons (wpAny_eqBool_int ?_))
  cases e : (x1 == x0) with
  | true =>
    have e' := beq_iff_eq.mp e
    refine kat_yes (kat_cons (wpAny_eqBool_int ?_))
    cases e2 : (y1 == y0) with
    | true =>
      have e2' := beq_iff_eq.mp e2
      refine kat_yes (kat_nil ?_)
      have : decide (x1 < x0 ∨ (x1 = x0 ∧ y1 < y0)) = false := by rw [e', e2']; simp
      rw [this] at h
      exact h
    | false =>
      refine kat_no (kat_one _ _ (PyProof.Rows.lt_int ?_))
      have : decide (x1 < x0 ∨ (x1 = x0 ∧ y1 < y0)) = decide (y1 < y0) := by rw [e']; simp
      rw [this] at h
      exact h
  | false =>
    have e' := beq_eq_false_iff_ne.mp e
    have : decide (x1 < x0 ∨ (x1 = x0 ∧ y1 < y0)) = decide (x1 < x0) := by simp [e']
    rw [this] at h
    exact kat_no (oneLt_int h)
theorem kat_keys_tup {f : Value} {T : Tok → Prop} {kS : Addr} {Fin : List Value → Nat → Shared → Prop}
    (hcall : ∀ (s' : Shared) (n2 : List (Addr × Obj)) (pa : Addr) (x y : Int) (t u : Tok) (k : Nat) (Q' : Value → Shared → Prop) (E' : Value → Shared → Prop), (∀ q ∈ news, q ∈ n2) → (pa, W.listOf [.int x t, .int y u].toArray k) ∈ n2 → Fr h₀ L s'.heap m → News h₀ L s'.heap n2 →
      (∀ a t' u' h' tk', Fr h₀ L h' m → News h₀ L h' ((a, tup2 y (-x) t' u') :: n2) → (∀ q ∈ n2, q.1 < a) → Q' (.ref a) { s' with heap := h', toks := tk' }) → wpAny (model prog w) A (call f [.ref pa]) Q' E' s') :
    ∀ (vs : List Value) (ps : List (Int × Int)), PairsAre news T vs ps → ∀ (ks : List Value) (kps : List (Int × Int)) (e : Nat) (h : Heap) (tk : Nat) (rest : List (Addr × Obj)), (∀ q ∈ news, q ∈ rest) → (∀ q ∈ rest, q.1 ≠ kS) → TupsAre rest ks kps → Fr h₀ L h m → News h₀ L h ((kS, seqObj "list" (List.toArray ks) e) :: rest) →
      (∀ h' tk' e' ks' rest', (∀ q ∈ rest, q ∈ rest') → (∀ q ∈ rest', q.1 ≠ kS) → TupsAre rest' ks' (kps ++ ps.map fun p => (p.2, -p.1)) → Fr h₀ L h' m → News h₀ L h' ((kS, seqObj "list" (List.toArray ks') e') :: rest') → Fin ks' e' { s with heap := h', toks := tk' }) →
      KatKeys prog w A h₀ L m kS f Fin vs ks e { s with heap := h, toks := tk } := by
  intro vs ps hp
  induction hp with
  | nil =>
    intro ks kps e h tk rest hs hne ht F N hfin
    exact KatKeys.nil (hfin h tk e ks rest (fun _ h => h) hne (by rw [List.map_nil, List.append_nil]; exact ht) F N)
  | cons pa x y t u k hm hT hp ih =>
    intro ks kps e h tk rest hs hne ht F N hfin
    refine KatKeys.cons (hcall _ _ pa x y t u k _ _ (fun q hq => .tail _ (hs q hq)) (.tail _ (hs _ hm)) F N fun a t' u' h' tk' F' N' hlt => ?_)
    have N2 : News h₀ L h' ((kS, seqObj "list" (List.toArray ks) e) :: (a, tup2 y (-x) t' u') :: rest) := fun q hq => by
      rcases List.mem_cons.mp hq with rfl | hq
      · exact N' _ (.tail _ (.head _))
      · rcases List.mem_cons.mp hq with rfl | hq
        · exact N' _ (.head _)
        · exact N' _ (.tail _ (.tail _ hq))
    have hne2 : ∀ q ∈ (a, tup2 y (-x) t' u') :: rest, q.1 ≠ kS := fun q hq => by
      rcases List.mem_cons.mp hq with rfl | hq
      · exact Nat.ne_of_gt (hlt _ (.head _))
      · exact hne q hq
    refine KatBack.intro F' N2 (.head hne2) fun h2 c F2 N2 => ?_
    refine ih (ks ++ [.ref a]) (kps ++ [(y, -x)]) c h2 tk' _ (fun q hq => .tail _ (hs q hq)) hne2 ((ht.mono fun q hq => .tail _ hq).append (.cons a _ _ _ _ (.head _) .nil)) F2 N2 fun h3 tk3 e3 ks3 rest3 hs3 hne3 ht3 F3 N3 => ?_
    refine hfin h3 tk3 e3 ks3 rest3 (fun q hq => hs3 q (.tail _ hq)) hne3 ?_ F3 N3
    rw [List.map_cons, ← List.singleton_append, ← List.append_assoc]
    exact ht3
theorem sorted_tups {l f : Addr} {vs : List Value} {ps : List (Int × Int)} {n : Nat} {T : Tok → Prop} {Q : Value → Shared → Prop} (F : Fr h₀ L s.heap m) (N : News h₀ L s.heap news) (hm : (l, W.listOf vs.toArray n) ∈ news) (hp : PairsAre news T vs ps) (h2 : 2 ≤ ps.length) (h64 : ps.length < 64)
    (hcall : ∀ (s' : Shared) (n2 : List (Addr × Obj)) (pa : Addr) (x y : Int) (t u : Tok) (k : Nat) (Q' : Value → Shared → Prop) (E' : Value → Shared → Prop), (∀ q ∈ news, q ∈ n2) → (pa, W.listOf [.int x t, .int y u].toArray k) ∈ n2 → Fr h₀ L s'.heap m → News h₀ L s'.heap n2 →
      (∀ a t' u' h' tk', Fr h₀ L h' m → News h₀ L h' ((a, tup2 y (-x) t' u') :: n2) → (∀ q ∈ n2, q.1 < a) → Q' (.ref a) { s' with heap := h', toks := tk' }) → wpAny (model prog w) A.in1.in1 (call (.ref f) [.ref pa]) Q' E' s')
    (hs : ∀ i, 0 < i → i < ps.length → ¬ ((ps.getD i (0, 0)).2 < (ps.getD (i - 1) (0, 0)).2 ∨ ((ps.getD i (0, 0)).2 = (ps.getD (i - 1) (0, 0)).2 ∧ -(ps.getD i (0, 0)).1 < -(ps.getD (i - 1) (0, 0)).1)))
    (h : ∀ D k h' tk, Fr h₀ L h' m → News h₀ L h' ((D, W.listOf vs.toArray k) :: news) → (∀ q ∈ news, q.1 < D) → Q (.ref D) { s with heap := h', toks := tk }) :
    wpAny (model prog w) A (call (.builtin "sorted") [.ref l] [(Str.ofString "key", .ref f)]) Q E s := by
  have hlen := hp.length
  refine kat_sortedK (b := false) (f := .ref f) F N ⟨_, (N _ hm).1, rfl, n, rfl⟩ (by omega) (by omega) (ksk_s1 _ _) (fun x => ksk_l1 _ _) (fun x => ksk_t1 _ _) fun D kS e1 h' F' N' l0 hD => ?_
  refine kat_keys_tup (s := { s with heap := h' }) (news := (D, seqObj "list" #[] e1) :: news) (T := T) (fun s' n2 pa x y t u k Q' E' hs' hm' F2 N2 hq => hcall s' n2 pa x y t u k Q' E' (fun q hq' => hs' q (.tail _ hq')) hm' F2 N2 hq) vs ps (hp.mono (fun q hq => .tail _ hq) fun _ h => h) [] [] 0 h' s.toks ((D, seqObj "list" #[] e1) :: news) (fun _ h => h) (fun p hp => ?_) .nil F' N' fun h3 tk3 e3 ks rest hs3 hne3 ht3 F3 N3 => ?_
  · rcases List.mem_cons.mp hp with rfl | hp
    · exact Nat.ne_of_lt l0
    · exact Nat.ne_of_lt (Nat.lt_trans (hD p hp) l0)
  · dsimp only
    rw [List.nil_append] at ht3
    have hkl := ht3.length
    rw [List.length_map] at hkl
    obtain ⟨fs, k1, k2, k3⟩ := ht3.kats (fun q hq => N3 q (.tail _ hq))
    rw [List.length_map] at k2
    refine kat_kind k1 (by omega) (T := .type "int") (fun v hv => ?_) (by decide) ?_
    · obtain ⟨x, t, rfl⟩ := k3 v hv
      exact Looks.of_pure rfl
    · have e : (Value.type "int" != Value.type "tuple") = true := by decide
      rw [e]
      refine kas_id (by omega) (fun i C h0 hi hC => ?_) ?_
      · show wpAny _ _ (keyLt' (tuples' true) (ks.getD i Value.none) (ks.getD (i - 1) Value.none)) C _ _
        have hg : ∀ j, j < ps.length → (ps.map fun p => (p.2, -p.1)).getD j (0, 0) = ((ps.getD j (0, 0)).2, -(ps.getD j (0, 0)).1) := fun j hj => getD_map_lt _ ps (0, 0) (0, 0) j hj
        obtain ⟨a1, t1, u1, e1, hm1⟩ := ht3.atIx i (by rw [List.length_map]; omega)
        obtain ⟨a2, t2, u2, e2, hm2⟩ := ht3.atIx (i - 1) (by rw [List.length_map]; omega)
        rw [hg i (by omega)] at hm1
        rw [hg (i - 1) (by omega)] at hm2
        rw [e1, e2]
        refine lt_tups (N3 _ (.tail _ hm1)).1 (N3 _ (.tail _ hm2)).1 ?_
        rw [decide_eq_false (hs i h0 (by omega))]
        exact hC
      · refine KatFin.intro F3 N3 (.head hne3) fun h4 c4 F4 N4 => ?_
        have N5 : News h₀ L h4 ((D, seqObj "list" #[] e1) :: news) := fun q hq => N4 q (.tail _ (hs3 q hq))
        refine KasFin.intro F4 N5 (.head fun p hp => Nat.ne_of_lt (hD p hp)) fun h5 c5 F5 N6 => ?_
        refine h D c5 h5 _ F5 ?_ hD
        have e : (katRev false ((List.toArray (List.range vs.length)).toList.map fun i => (katRev false vs).getD i Value.none)) = vs := pick_id vs
        rw [e] at N6
        exact N6
end
end
-- LX11
theorem again_LX11 : True := by w_top off; (try walk1); trivial
section
theorem ne_same {prog : Program} {w : World} {A : Around} {E : Value → Shared → Prop} {s : Shared} {l b : Addr} {vs : List Value} {n k : Nat} {Q : Value → Shared → Prop} (hl : s.heap.get? l = some (W.listOf vs.toArray n)) (hb : s.heap.get? b = some (W.listOf vs.toArray k))
    (hv : ∀ v ∈ vs, ∃ a, v = Value.ref a) (hu : A.units < cLine) (h : Q (.bool false) s) : wpAny (model prog w) A (compareOp .NotEq (.ref l) (.ref b)) Q E s := by
  show wpAny _ _ (richCompare .NotEq (.ref l) (.ref b)) Q E s
  refine SeqAt.RcNeAt.lists (e := fun _ => true) (items := vs.toArray) (items2 := vs.toArray) ⟨_, hl, rfl, n, rfl⟩ ⟨_, hb, rfl, k, rfl⟩ rfl hu (fun j h1 h2 => ?_) prog w E Q ?_
  · obtain ⟨a, e⟩ := hv vs.toArray[j] (by simp)
    intro prog w E Q hq
    rw [e]
    exact eqB_ref hq
  · have e : (!(List.range vs.toArray.size).all fun _ => true) = false := by simp
    rw [e]; exact h
theorem PairsAre.refs {led : List (Addr × Obj)} {T : Tok → Prop} {vs : List Value} {ps : List (Int × Int)} (h : PairsAre led T vs ps) : ∀ v ∈ vs, ∃ a, v = Value.ref a := by
  induction h with
  | nil => exact fun v hv => absurd hv List.not_mem_nil
  | cons a x y t u n hm hT _ ih =>
    intro v hv
    rcases List.mem_cons.mp hv with rfl | hv
    · exact ⟨a, rfl⟩
    · exact ih v hv
def RelR (p q : Int × Int) : Prop := p.2 < q.2 ∨ (p.2 = q.2 ∧ q.1 < p.1)
theorem insR_rel (x y : Int) : ∀ (acc : List (Int × Int)), acc.Pairwise RelR → (∀ p ∈ acc, p.1 < x) → (insV acc ((acc.map (·.2)).countP (fun k => decide (k < y))) (x, y)).Pairwise RelR
  | [], _, _ => List.pairwise_singleton _ _
  | a :: r, h, hx => by
    have ha : ∀ {b}, b ∈ r → RelR a b := fun hb => List.rel_of_pairwise_cons h hb
    have ih := insR_rel x y r (List.Pairwise.of_cons h) (fun p hp => hx p (.tail _ hp))
    by_cases e : a.2 < y
    · have e2 : insV (a :: r) (((a :: r).map (·.2)).countP (fun k => decide (k < y))) (x, y) = a :: insV r ((r.map (·.2)).countP (fun k => decide (k < y))) (x, y) := by
        rw [List.map_cons, List.countP_cons_of_pos (by exact decide_eq_true e)]; rfl
      rw [e2]
      refine List.Pairwise.cons (fun b hb => ?_) ih
      rcases List.mem_cons.mp ((insV_perm _ _ _).mem_iff.mp hb) with rfl | hb
      · exact .inl e
      · exact ha hb
    · have e3 : (r.map (·.2)).countP (fun k => decide (k < y)) = 0 := by
        rw [List.countP_eq_zero]
        intro k hk
        obtain ⟨b, hb, rfl⟩ := List.mem_map.mp hk
        intro hq
        have h1 := ha hb
        unfold RelR at h1
        have h2 := of_decide_eq_true hq
        omega
      have e2 : insV (a :: r) (((a :: r).map (·.2)).countP (fun k => decide (k < y))) (x, y) = (x, y) :: a :: r := by
        rw [List.map_cons, List.countP_cons_of_neg (by rw [decide_eq_true_eq]; exact e), e3]; rfl
      rw [e2]
      refine List.Pairwise.cons (fun b hb => ?_) h
      have hb1 := hx b hb
      rcases List.mem_cons.mp hb with rfl | hb
      · unfold RelR; show y < b.2 ∨ (y = b.2 ∧ b.1 < x); omega
      · have := ha hb
        unfold RelR at this ⊢
        show y < b.2 ∨ (y = b.2 ∧ b.1 < x); omega
theorem rests_rel (b dk : Int) (nums : List Int) : ∀ (rs : List Int) (acc : List (Int × Int)), acc.Pairwise RelR → (∀ p ∈ acc, ∀ r ∈ rs, p.1 < r) → rs.Pairwise (· < ·) → (rs.foldl (rStep b dk nums) acc).Pairwise RelR
  | [], _, h, _, _ => h
  | r :: rs, acc, h, hx, hr => by
    rw [List.foldl_cons]
    refine rests_rel b dk nums rs _ (insR_rel _ _ acc h fun p hp => hx p hp r (.head _)) (fun p hp r' hr' => ?_) (List.Pairwise.of_cons hr)
    rcases List.mem_cons.mp ((insV_perm _ _ _).mem_iff.mp hp) with rfl | hp
    · exact List.rel_of_pairwise_cons hr hr'
    · exact hx p hp r' (.tail _ hr')
noncomputable def ascB : List Int → Bool
  | [] => true
  | [_] => true
  | x :: y :: r => decide (x < y) && ascB (y :: r)
theorem ascB_ok : ∀ l, ascB l = true → l.Pairwise (· < ·)
  | [], _ => .nil
  | [_], _ => List.pairwise_singleton _ _
  | x :: y :: r, h => by
    unfold ascB at h
    rw [Bool.and_eq_true] at h
    have ih := ascB_ok (y :: r) h.2
    have hxy := of_decide_eq_true h.1
    refine List.Pairwise.cons (fun z hz => ?_) ih
    rcases List.mem_cons.mp hz with rfl | hz
    · exact hxy
    · exact Int.lt_trans hxy (List.rel_of_pairwise_cons ih hz)
theorem rings_asc {b dk : Int} (h0 : 4 ≤ b) (h1 : b ≤ 6) (k0 : 2 ≤ dk) (k1 : dk ≤ b - 2) : (ringsOf b dk).Pairwise (· < ·) := by
  refine ascB_ok _ ?_
  rcases six h0 h1 k0 k1 with ⟨rfl, rfl⟩ | ⟨rfl, rfl⟩ | ⟨rfl, rfl⟩ | ⟨rfl, rfl⟩ | ⟨rfl, rfl⟩ | ⟨rfl, rfl⟩ <;> decide +kernel
theorem adj_of {α : Type} {R : α → α → Prop} {l : List α} (h : l.Pairwise R) (d : α) (i : Nat) (h0 : 0 < i) (hi : i < l.length) : R (l.getD (i - 1) d) (l.getD i d) := by
  rw [List.getD_eq_getElem?_getD, List.getD_eq_getElem?_getD, List.getElem?_eq_getElem hi, List.getElem?_eq_getElem (show i - 1 < l.length by omega)]
  exact List.pairwise_iff_getElem.mp h (i - 1) i (by omega) hi (by omega)
theorem rests_adj {b dk : Int} (nums : List Int) (h0 : 4 ≤ b) (h1 : b ≤ 6) (k0 : 2 ≤ dk) (k1 : dk ≤ b - 2) (i : Nat) (hi0 : 0 < i) (hi : i < (restsOf b dk nums (ringsOf b dk)).length) :
    ¬ (((restsOf b dk nums (ringsOf b dk)).getD i (0, 0)).2 < ((restsOf b dk nums (ringsOf b dk)).getD (i - 1) (0, 0)).2 ∨ (((restsOf b dk nums (ringsOf b dk)).getD i (0, 0)).2 = ((restsOf b dk nums (ringsOf b dk)).getD (i - 1) (0, 0)).2 ∧ -((restsOf b dk nums (ringsOf b dk)).getD i (0, 0)).1 < -((restsOf b dk nums (ringsOf b dk)).getD (i - 1) (0, 0)).1)) := by
  have h := adj_of (rests_rel b dk nums (ringsOf b dk) [] .nil (fun p hp => absurd hp List.not_mem_nil) (rings_asc h0 h1 k0 k1)) (0, 0) i hi0 hi
  unfold RelR at h
  unfold restsOf
  omega
noncomputable def lexB : List (Int × Int) → Bool
  | [] => true
  | [_] => true
  | x :: y :: r => (decide (x.1 < y.1) || (decide (x.1 = y.1) && decide (x.2 < y.2))) && lexB (y :: r)
def RelK (p q : Int × Int) : Prop := p.1 < q.1 ∨ (p.1 = q.1 ∧ p.2 < q.2)
theorem lexB_ok : ∀ l, lexB l = true → l.Pairwise RelK
  | [], _ => .nil
  | [_], _ => List.pairwise_singleton _ _
  | x :: y :: r, h => by
    unfold lexB at h
    rw [Bool.and_eq_true, Bool.or_eq_true, Bool.and_eq_true, decide_eq_true_eq, decide_eq_true_eq, decide_eq_true_eq] at h
    have ih := lexB_ok (y :: r) h.2
    refine List.Pairwise.cons (fun z hz => ?_) ih
    rcases List.mem_cons.mp hz with rfl | hz
    · exact h.1
    · have h2 := List.rel_of_pairwise_cons ih hz
      have h1 := h.1
      unfold RelK at h2 ⊢
      omega
theorem kinds_lex {b dk : Int} (h0 : 4 ≤ b) (h1 : b ≤ 6) (k0 : 2 ≤ dk) (k1 : dk ≤ b - 2) : (kindsOf b (ringsOf b dk)).Pairwise RelK := by
  refine lexB_ok _ ?_
  rcases six h0 h1 k0 k1 with ⟨rfl, rfl⟩ | ⟨rfl, rfl⟩ | ⟨rfl, rfl⟩ | ⟨rfl, rfl⟩ | ⟨rfl, rfl⟩ | ⟨rfl, rfl⟩ <;> decide +kernel
theorem kinds_adj {b dk : Int} (h0 : 4 ≤ b) (h1 : b ≤ 6) (k0 : 2 ≤ dk) (k1 : dk ≤ b - 2) (i : Nat) (hi0 : 0 < i) (hi : i < (kindsOf b (ringsOf b dk)).length) :
    ¬ (((kindsOf b (ringsOf b dk)).getD i (0, 0)).1 < ((kindsOf b (ringsOf b dk)).getD (i - 1) (0, 0)).1 ∨ (((kindsOf b (ringsOf b dk)).getD i (0, 0)).1 = ((kindsOf b (ringsOf b dk)).getD (i - 1) (0, 0)).1 ∧ ((kindsOf b (ringsOf b dk)).getD i (0, 0)).2 < ((kindsOf b (ringsOf b dk)).getD (i - 1) (0, 0)).2)) := by
  have h := adj_of (kinds_lex h0 h1 k0 k1) (0, 0) i hi0 hi
  unfold RelK at h
  omega
theorem rings_two {b dk : Int} (h0 : 4 ≤ b) (h1 : b ≤ 6) (k0 : 2 ≤ dk) (k1 : dk ≤ b - 2) : 2 ≤ (ringsOf b dk).length := by
  refine Nat.le_of_ble_eq_true ?_
  rcases six h0 h1 k0 k1 with ⟨rfl, rfl⟩ | ⟨rfl, rfl⟩ | ⟨rfl, rfl⟩ | ⟨rfl, rfl⟩ | ⟨rfl, rfl⟩ | ⟨rfl, rfl⟩ <;> decide +kernel
theorem news_front {h₀ h : Heap} {L : Addr} {n2 : List (Addr × Obj)} {a b c : Addr × Obj} (N : News h₀ L h n2) (ha : a ∈ n2) (hb : b ∈ n2) (hc : c ∈ n2) : News h₀ L h (a :: b :: c :: n2) := fun q hq => by
  rcases List.mem_cons.mp hq with rfl | hq
  · exact N _ ha
  · rcases List.mem_cons.mp hq with rfl | hq
    · exact N _ hb
    · rcases List.mem_cons.mp hq with rfl | hq
      · exact N _ hc
      · exact N _ hq
end
-- LX12
theorem again_LX12 : True := by w_top off; (try walk1); trivial
section
noncomputable def behOf (kp : List (Int × Int)) (place : Nat) : Int := cnt (fun k => decide (k ≤ (kp.getD place (0, 0)).2)) (kp.map (·.1)) (place : Int) (kp.length : Int)
noncomputable def ordGo (b : Int) (kp : List (Int × Int)) : Nat → Nat → List Int
  | 0, _ => []
  | f + 1, place => if place < kp.length then (b / (behOf kp place - (place : Int))) :: ordGo b kp f (behOf kp place).toNat else []
noncomputable def ordersOf (b dk : Int) : List Int := ordGo b (kindsOf b (ringsOf b dk)) 20 0
structure OrdStep (b : Int) (kp : List (Int × Int)) (place : Nat) (o : Int) : Prop where
  lt : place < kp.length
  hd : (kp.getD place (0, 0)).1 = (kp.getD place (0, 0)).2
  c1 : cnt (fun k => decide (k ≤ -1)) (kp.map (·.1)) (place : Int) (kp.length : Int) = (place : Int)
  c2 : cnt (fun k => decide (k ≤ (kp.getD place (0, 0)).2)) (kp.map (·.1)) 0 (place : Int) = (place : Int)
  up : (place : Int) < behOf kp place
  top : behOf kp place ≤ (kp.length : Int)
  mul : o * (behOf kp place - (place : Int)) = b
  o1 : 1 ≤ o
noncomputable def ordStepB (b : Int) (kp : List (Int × Int)) (place : Nat) (o : Int) : Bool :=
  Nat.blt place kp.length && (decide ((kp.getD place (0, 0)).1 = (kp.getD place (0, 0)).2) && (decide (cnt (fun k => decide (k ≤ -1)) (kp.map (·.1)) (place : Int) (kp.length : Int) = (place : Int)) && (decide (cnt (fun k => decide (k ≤ (kp.getD place (0, 0)).2)) (kp.map (·.1)) 0 (place : Int) = (place : Int)) &&
    (decide ((place : Int) < behOf kp place) && (decide (behOf kp place ≤ (kp.length : Int)) && (decide (o * (behOf kp place - (place : Int)) = b) && decide (1 ≤ o)))))))
theorem ordStepB_ok {b : Int} {kp : List (Int × Int)} {place : Nat} {o : Int} (h : ordStepB b kp place o = true) : OrdStep b kp place o := by
  unfold ordStepB at h
  simp only [Bool.and_eq_true, decide_eq_true_eq] at h
  obtain ⟨h1, h2, h3, h4, h5, h6, h7, h8⟩ := h
  exact ⟨Nat.blt_eq.mp h1, h2, h3, h4, h5, h6, h7, h8⟩
noncomputable def ordB (b : Int) (kp : List (Int × Int)) : Nat → List Int → Bool
  | place, [] => Nat.beq place kp.length
  | place, o :: r => ordStepB b kp place o && ordB b kp (behOf kp place).toNat r
theorem ord_all {b dk : Int} (h0 : 4 ≤ b) (h1 : b ≤ 6) (k0 : 2 ≤ dk) (k1 : dk ≤ b - 2) : ordB b (kindsOf b (ringsOf b dk)) 0 (ordersOf b dk) = true := by
  rcases six h0 h1 k0 k1 with ⟨rfl, rfl⟩ | ⟨rfl, rfl⟩ | ⟨rfl, rfl⟩ | ⟨rfl, rfl⟩ | ⟨rfl, rfl⟩ | ⟨rfl, rfl⟩ <;> decide +kernel
structure OrdW (b dk : Int) (place : Int) (ovs : List Value) (ods : List Int) (rest : List (Addr × Obj)) (o3 o7 : Obj) (k3 k7 : Addr × Obj) (L : Addr) : Prop where
  one : ∃ r, ods ++ r = ordersOf b dk ∧ ordB b (kindsOf b (ringsOf b dk)) place.toNat r = true
  p0 : 0 ≤ place
  tabs : Tabs o3 k3 o7 k7 rest
  hk3 : ∀ q ∈ rest, q.1 ≠ L + 1 → q.1 ≠ k3.1
  hk7 : ∀ q ∈ rest, q.1 ≠ L + 1 → q.1 ≠ k7.1
theorem small_pre {b0 : Int} (hb0 : 4 ≤ b0) (hb1 : b0 ≤ 6) {n : Int} (h0 : 0 < n) (h1 : n ≤ 6) : ∀ a b, 0 ≤ a → 0 < b → (b = n ∨ b = -n) → (a = b0 ∨ a = -b0 ∨ a = -b0 - 1 ∨ a = b0 - 1) → DmPre a b := fun a b ha hb hbn han => by
  have ea : 1 ≤ a ∧ a ≤ 6 := by omega
  have eb : 1 ≤ b ∧ b ≤ 6 := by omega
  have ca : a = 1 ∨ a = 2 ∨ a = 3 ∨ a = 4 ∨ a = 5 ∨ a = 6 := by omega
  have cb : b = 1 ∨ b = 2 ∨ b = 3 ∨ b = 4 ∨ b = 5 ∨ b = 6 := by omega
  have ia : Builtin.Int.intBits a ≤ 3 := by rcases ca with rfl | rfl | rfl | rfl | rfl | rfl <;> decide +kernel
  have ib : 1 ≤ Builtin.Int.intBits b ∧ Builtin.Int.intBits b ≤ 3 := by rcases cb with rfl | rfl | rfl | rfl | rfl | rfl <;> decide +kernel
  exact ⟨by omega, by omega, by omega, by omega⟩
theorem divmod_is {x q b z o : Int} (h : x = q * b + z) (hz : 0 ≤ z ∧ z < b ∨ z ≤ 0 ∧ b < z) (hb : 0 < b) {r : Int} (hx : x = o * b + r) (hr : 0 ≤ r) (hr' : r < b) : q = o ∧ z = r := by
  have hz' : 0 ≤ z ∧ z < b := by omega
  have e : (q - o) * b = r - z := by rw [Int.sub_mul]; omega
  have hq : q = o := by
    rcases Int.lt_trichotomy (q - o) 0 with hl | he | hg
    · have : (q - o) * b ≤ (-1) * b := Int.mul_le_mul_of_nonneg_right (by omega) (by omega)
      omega
    · omega
    · have : 1 * b ≤ (q - o) * b := Int.mul_le_mul_of_nonneg_right (by omega) (by omega)
      omega
  subst hq
  have : (q - q) * b = 0 := by rw [Int.sub_self, Int.zero_mul]
  exact ⟨rfl, by omega⟩
theorem kinds_len_le {b dk : Int} (h0 : 4 ≤ b) (h1 : b ≤ 6) (k0 : 2 ≤ dk) (k1 : dk ≤ b - 2) : (kindsOf b (ringsOf b dk)).length ≤ 20 := by
  rw [kinds_length]; exact (rings_facts h0 h1 k0 k1).2.1
theorem Tabs.cons {o3 o7 : Obj} {k3 k7 : Addr × Obj} {news : List (Addr × Obj)} (T : Tabs o3 k3 o7 k7 news) (x : Addr × Obj) (h3 : x.1 ≠ 30) (h7 : x.1 ≠ 37) : Tabs o3 k3 o7 k7 (x :: news) :=
  ⟨T.t3, T.t7, T.k33, T.k37, T.k73, T.k77, List.forall_mem_cons.mpr ⟨h3, T.n30⟩, List.forall_mem_cons.mpr ⟨h7, T.n37⟩⟩
theorem Tabs.sub {o3 o7 : Obj} {k3 k7 : Addr × Obj} {news news' : List (Addr × Obj)} (T : Tabs o3 k3 o7 k7 news) (h : ∀ q ∈ news', q ∈ news) : Tabs o3 k3 o7 k7 news' :=
  ⟨T.t3, T.t7, T.k33, T.k37, T.k73, T.k77, fun p hp => T.n30 p (h p hp), fun p hp => T.n37 p (h p hp)⟩
section
variable {prog : Program} {w : World} {A : Around} {h₀ : Heap} {L D : Addr} {news : List (Addr × Obj)} {s : Shared} {E : Value → Shared → Prop} {n : Nat} {u t1 t2 : Tok} {x y : Int} {value slice : PySem.Expr} {Q : Value → Shared → Prop}
theorem pair_0 (N : News h₀ L s.heap news) (hm : (D, W.listOf [.int x t1, .int y t2].toArray n) ∈ news) (h : Q (.int x t1) s)
    (hs : subscripted slice false (.ref D) (.int 0 u) = operate [.ref D, .int 0 u] (getItem (.ref D) (.int 0 u)) := by with_unfolding_all rfl) :
    wpAny (model prog w) A (subscriptTail value slice (.ref D) (.int 0 u)) Q E s :=
  sub_at N hm (by decide) (by show _ < (2 : Int); decide) (by decide) h hs
theorem pair_1 (N : News h₀ L s.heap news) (hm : (D, W.listOf [.int x t1, .int y t2].toArray n) ∈ news) (h : Q (.int y t2) s)
    (hs : subscripted slice false (.ref D) (.int 1 u) = operate [.ref D, .int 1 u] (getItem (.ref D) (.int 1 u)) := by with_unfolding_all rfl) :
    wpAny (model prog w) A (subscriptTail value slice (.ref D) (.int 1 u)) Q E s :=
  sub_at N hm (by decide) (by show _ < (2 : Int); decide) (by decide) h hs
end
end
-- LX13
theorem again_LX13 : True := by w_top off; (try walk1); trivial
section
section
variable (w : World) (p : Program) (loose : List Str) (mean : ExcName → Option Value) (mg mb : Str → Option Value)
theorem brb_pairs (news : List (Addr × Obj)) (l : Addr) (vs : List Value) (ps : List (Int × Int)) (n : Nat) (T : Tok → Prop) (h : PairsAre news T vs ps) (hm : (l, W.listOf vs.toArray n) ∈ news) (hfit : ps.length ≤ 1000) (hsort : (ps.map (·.1)).Pairwise (· ≤ ·))
    (x : Int) (t1 : Tok) (lo : Int) (t2 : Tok) (h0 : 0 ≤ lo) (hlh : lo ≤ ps.length) (z : Int) (hz : cnt (fun k => decide (k ≤ x)) (ps.map (·.1)) lo (ps.length : Int) = z) :
    Spec w p loose mean mg mb 3 news 74 [.ref l, .int x t1, .int lo t2] [(Str.ofString "key", .ref 190)] (isI z news) := by
  have hlen := h.length
  rw [← hz, ← hlen]
  exact br_b w p loose mean mg mb news l vs (ps.map (·.1)) n hm (by omega) (by rw [List.length_map, hlen]) x t1 2 190 (key_head w news) (heads_spec w p loose mean mg mb news h) lo t2 h0 (by omega) (falls_sorted (cuts_le x) hsort)
theorem brc_pairs (news : List (Addr × Obj)) (l : Addr) (vs : List Value) (ps : List (Int × Int)) (n : Nat) (T : Tok → Prop) (h : PairsAre news T vs ps) (hm : (l, W.listOf vs.toArray n) ∈ news) (hfit : ps.length ≤ 1000) (hsort : (ps.map (·.1)).Pairwise (· ≤ ·))
    (x : Int) (t1 : Tok) (lo : Int) (t2 : Tok) (h0 : 0 ≤ lo) (hi : Int) (t3 : Tok) (hlh : lo ≤ hi) (hhl : hi ≤ ps.length) (z : Int) (hz : cnt (fun k => decide (k ≤ x)) (ps.map (·.1)) lo hi = z) :
    Spec w p loose mean mg mb 3 news 74 [.ref l, .int x t1, .int lo t2, .int hi t3] [(Str.ofString "key", .ref 190)] (isI z news) := by
  have hlen := h.length
  rw [← hz]
  exact br_c w p loose mean mg mb news l vs (ps.map (·.1)) n hm (by omega) (by rw [List.length_map, hlen]) x t1 2 190 (key_head w news) (heads_spec w p loose mean mg mb news h) lo t2 h0 hi t3 hlh (by omega) (falls_sorted (cuts_le x) hsort)
end
theorem ordGo_len (b : Int) (kp : List (Int × Int)) : ∀ (f p : Nat), (ordGo b kp f p).length ≤ f
  | 0, _ => Nat.le_refl _
  | f + 1, p => by
    unfold ordGo
    split
    · rw [List.length_cons]; exact Nat.succ_le_succ (ordGo_len b kp f _)
    · exact Nat.zero_le _
theorem orders_len (b dk : Int) : (ordersOf b dk).length ≤ 20 := ordGo_len _ _ _ _
noncomputable def eqC (rk : List Int) (i : Int) : Int := ((rk.countP (fun k => decide (k = i)) : Nat) : Int)
noncomputable def subsA : List Int → Nat → Int → List Int
  | _, 0, acc => [acc]
  | [], _ + 1, _ => []
  | x :: l, k + 1, acc => subsA l (k + 1) acc ++ subsA l k (x + acc)
noncomputable def fR (b c z : Int) : Int := (z - c).fmod b
noncomputable def halfOf (dk : Int) : Int := (dk * (dk - 1)).fdiv 2
noncomputable def idList (b : Int) : List Int := (List.range b.toNat).map fun i : Nat => (i : Int)
noncomputable def dgOf (b dk : Int) : List Int := (List.range b.toNat).map fun i : Nat => eqC ((subsA (idList b).reverse dk.toNat 0).map (fR b (halfOf dk))) (i : Int)
end
-- LX14
theorem again_LX14 : True := by w_top off; (try walk1); trivial
section
noncomputable def pw (wd t : Int) : Int := 1 * 2 ^ (wd * t).toNat - 1
theorem wd_mul {wd t : Int} (h0 : 0 ≤ wd) (h1 : wd ≤ 1602) (t0 : 0 ≤ t) (t1 : t ≤ 6) : 0 ≤ wd * t ∧ wd * t ≤ 9612 := by
  have a := Int.mul_nonneg h0 t0
  have b : wd * t ≤ 1602 * t := Int.mul_le_mul_of_nonneg_right h1 t0
  omega
section
variable (w : World) (p : Program) (loose : List Str) (mean : ExcName → Option Value) (mg mb : Str → Option Value)
theorem spec_pw (news : List (Addr × Obj)) (wd t : Int) (tt u : Tok) (h0 : 3 ≤ wd) (h1 : wd ≤ 1602) (t0 : 0 ≤ t) (t1 : t ≤ 6) : Spec w p loose mean mg mb 2 news 204 [.int wd tt, .int t u] [] (isI (pw wd t) news) :=
  spec_power w p loose mean mg mb news wd t tt u (IntMulOk.of_left (intBits_le_64 (by omega) (by omega))) (wd_mul (by omega) h1 t0 t1).1 (by
    have := (wd_mul (by omega) h1 t0 t1).2
    have e : (Builtin.Int.intBits 1 : Int) = 1 := by decide +kernel
    rw [e]
    have : (2 : Int) ^ 27 = 134217728 := by decide
    omega)
end
def DmH (a0 b0 : Int) : Prop := ∀ a b, 0 ≤ a → 0 < b → (b = b0 ∨ b = -b0) → (a = a0 ∨ a = -a0 ∨ a = -a0 - 1 ∨ a = a0 - 1) → DmPre a b
structure GaussOk (b dk wd : Int) (W : Nat → Int) (tn ov : Int) (dg : List Int) : Prop where
  w0 : W 0 = 1
  st : ∀ j : Nat, (j : Int) < dk → W j * pw wd (b - dk + (1 + (j : Int))) = W (j + 1) * pw wd (1 + (j : Int))
  mo : ∀ j : Nat, (j : Int) < dk → IntMulOk (W j) (pw wd (b - dk + (1 + (j : Int))))
  pp : ∀ j : Nat, (j : Int) < dk → 0 < pw wd (1 + (j : Int))
  pre : ∀ j : Nat, (j : Int) < dk → DmH (W j * pw wd (b - dk + (1 + (j : Int)))) (pw wd (1 + (j : Int)))
  fin : W dk.toNat = tn * pw wd b + ov
  o0 : 0 < ov
  o1 : ov < pw wd b
  mo2 : IntMulOk tn (pw wd b)
  pre2 : DmH (W dk.toNat) (pw wd b)
  pre2n : DmH (-W dk.toNat) (pw wd b)
  pre2m : DmH (W dk.toNat) (-pw wd b)
  pre2q : DmH (-W dk.toNat) (-pw wd b)
  mo3 : IntMulOk (pw wd b) (pw wd b)
  pre3 : DmH (pw wd b * pw wd b - 1) (pw wd b)
  dc : (↑(Builtin.Int.intBits ov) + wd - 1 : Int).fdiv wd = b
  dlt : ov < 2 ^ (wd.toNat * b.toNat)
  dd : digs wd.toNat b.toNat ov = dg
  pc : (↑(Builtin.Int.intBits (pw wd b)) + wd - 1 : Int).fdiv wd = b
  plt : pw wd b < 2 ^ (wd.toNat * b.toNat)
  pd : digs wd.toNat b.toNat (pw wd b) = List.replicate b.toNat (pw wd 1)
  dgo : dg = dgOf b dk
end
-- LX15
theorem again_LX15 : True := by w_top off; (try walk1); trivial
section
theorem SpecB.useT {w : World} {p : Program} {loose : List Str} {mean : ExcName → Option Value} {mg mb : Str → Option Value} {need : Nat} {news : List (Addr × Obj)} {f : Addr} {vs : List Value}
    {dp un : Nat} {gd : Option (List Code)} {cn : Str} {cs : Scope} {a : Addr} {ccd : Value} {cl : List (Str × Addr)} {A₀ : Around} {h₀ : Heap} {L : Addr} {m : Str → Option Value} {s : Shared} {Q E : Value → Shared → Prop}
    (S : SpecB w p loose mean mg mb need news f vs (fun r nw => r = .bool true ∧ nw = news))
    (B : Below A₀ h₀ [] h₀) (F : Fr h₀ L s.heap m) (X : (hd.heap_39 w.params).In h₀) (N : News h₀ L s.heap news) (T : Top p loose mean mg mb h₀) (hk : cs.kind = .function) (hd : dp + need < recursionLimit) (hu : un + 8 * need < cLine)
    (ret : ∀ h' tk', Fr h₀ L h' m → News h₀ L h' news → Q (.bool true) { s with heap := h', toks := tk' }) :
    wpAny (model PySem.Challenge.rw_tl0033_01.row.prog w) (ktrTop dp un gd cn cs L a ccd cl []) (call (.ref f) vs) Q E s :=
  S _ _ _ _ _ _ _ _ _ _ _ _ _ _ _ B F X N T hk hd hu fun r nw h' tk' F' N' hP => by
    obtain ⟨rfl, rfl⟩ := hP
    exact ret h' tk' F' N'
theorem divmod_neg {x q b z : Int} (h : x = q * b + z) (hz : 0 ≤ z ∧ z < b ∨ z ≤ 0 ∧ b < z) (hb : b < 0) {o r : Int} (hx : x = o * b + r) (hr : r ≤ 0) (hr' : b < r) : q = o ∧ z = r := by
  have := divmod_is (x := -x) (q := q) (b := -b) (z := -z) (o := o) (r := -r) (by rw [h, Int.mul_neg]; omega) (by omega) (by omega) (by rw [hx, Int.mul_neg]; omega) (by omega) (by omega)
  omega
theorem ne_ints {prog : Program} {w : World} {A : Around} {E : Value → Shared → Prop} {s : Shared} {l b : Addr} {vs us : List Value} {ns : List Int} {n k : Nat} {Q : Value → Shared → Prop} (hl : s.heap.get? l = some (W.listOf vs.toArray n)) (hb : s.heap.get? b = some (W.listOf us.toArray k))
    (hi : IntsAre vs ns) (hj : IntsAre us ns) (hu : A.units < cLine) (h : Q (.bool false) s) : wpAny (model prog w) A (compareOp .NotEq (.ref l) (.ref b)) Q E s := by
  show wpAny _ _ (richCompare .NotEq (.ref l) (.ref b)) Q E s
  have e1 := hi.length
  have e2 := hj.length
  refine SeqAt.RcNeAt.lists (e := fun _ => true) (items := vs.toArray) (items2 := us.toArray) ⟨_, hl, rfl, n, rfl⟩ ⟨_, hb, rfl, k, rfl⟩ (by rw [List.size_toArray, List.size_toArray]; omega) hu (fun j h1 h2 => ?_) prog w E Q ?_
  · rw [List.size_toArray] at h1 h2
    obtain ⟨t, ea⟩ := intsare_getD hi j (by omega)
    obtain ⟨u, eb⟩ := intsare_getD hj j (by omega)
    rw [List.getD_eq_getElem?_getD, List.getElem?_eq_getElem h1] at ea
    rw [List.getD_eq_getElem?_getD, List.getElem?_eq_getElem h2] at eb
    intro prog w E Q hq
    have ga : vs.toArray[j] = .int (ns.getD j 0) t := ea
    have gb : us.toArray[j] = .int (ns.getD j 0) u := eb
    rw [ga, gb]
    refine wpAny_eqBool_int ?_
    rw [beq_self_eq_true]; exact hq
  · have e : (!(List.range vs.toArray.size).all fun _ => true) = false := by simp
    rw [e]; exact h
theorem ints_replicate (x : Int) (t : Tok) : ∀ n : Nat, IntsAre (List.replicate n (.int x t)) (List.replicate n x)
  | 0 => IntsAre.nil
  | n + 1 => IntsAre.cons _ _ (ints_replicate x t n)
theorem ints_flat (x : Int) (t : Tok) : ∀ n : Nat, IntsAre (List.flatten (List.replicate n [Value.int x t])) (List.replicate n x)
  | 0 => IntsAre.nil
  | n + 1 => IntsAre.cons _ _ (ints_flat x t n)
end
-- LX16
theorem again_LX16 : True := by w_top off; (try walk1); trivial
section
def TokB (tk : Nat) (vs : List Value) : Prop := ∀ k t, Value.int k t ∈ vs → @LT.lt Nat _ 0 t ∧ @LT.lt Nat _ t tk
theorem pairs_cons {led : List (Addr × Obj)} {T : Tok → Prop} {v : Value} {r : List Value} {ps : List (Int × Int)} (h : PairsAre led T (v :: r) ps) :
    ∃ a x y t u n ps', v = .ref a ∧ ps = (x, y) :: ps' ∧ (a, W.listOf [.int x t, .int y u].toArray n) ∈ led ∧ T u ∧ PairsAre led T r ps' := by
  cases h with
  | cons a x y t u n hm hT h => exact ⟨a, x, y, t, u, n, _, rfl, rfl, hm, hT, h⟩
structure RowW (tk0 : Nat) (prs : List (Addr × Obj)) (all : List (Int × Int)) (rest ys : List Value) : Prop where
  one : ∃ don ps, don ++ ps = all ∧ PairsAre prs (fun u => @LT.lt Nat _ 0 u ∧ @LT.lt Nat _ u tk0) rest ps ∧ IntsAre ys (don.map (·.2))
  two : TokB tk0 ys
theorem rests_range (b dk : Int) (nums : List Int) (hb : 0 < b) : ∀ (rs : List Int) (acc : List (Int × Int)), (∀ p ∈ acc, 0 ≤ p.2 ∧ p.2 < b) → ∀ p ∈ rs.foldl (rStep b dk nums) acc, 0 ≤ p.2 ∧ p.2 < b
  | [], _, h => h
  | r :: rs, acc, h => by
    rw [List.foldl_cons]
    refine rests_range b dk nums hb rs _ fun p hp => ?_
    rcases List.mem_cons.mp ((insV_perm _ _ _).mem_iff.mp hp) with rfl | hp
    · exact ⟨Int.fmod_nonneg_of_pos _ hb, Int.fmod_lt_of_pos _ hb⟩
    · exact h p hp
theorem row_range (b dk : Int) (nums : List Int) (hb : 0 < b) (rs : List Int) : ∀ e ∈ (restsOf b dk nums rs).map (fun p => p.2), 0 ≤ e ∧ e < ((b.toNat : Nat) : Int) := fun e he => by
  obtain ⟨p, hp, rfl⟩ := List.mem_map.mp he
  have := rests_range b dk nums hb rs [] (fun p hp => absurd hp List.not_mem_nil) p hp
  omega
end
-- LX17
theorem again_LX17 : True := by w_top off; (try walk1); trivial
section
section
variable {prog : Program} {w : World} {A : Around} {s : Shared} {h₀ : Heap} {L : Addr} {m : Str → Option Value} {env : Env}
theorem rest_go {elt : Expr} {x : Str} {scope : Scope} {cl : List (Str × Addr)} {ax : Addr} {vs : List Value} {news : List (Addr × Obj)} {Fin : List Value → List (Addr × Obj) → Prop} (Wd : List Value → List Value → Prop) (hS : LCg.SrcAt h₀ ax vs.toArray news)
    (turn : ∀ v r ys I oI C oC D m₂ h tk (E' : Value → Shared → Prop), Wd (v :: r) ys → LCg.NsObj oC m₂ → m₂ x = some v → Fr h₀ L h m → News h₀ L h ((I, oI) :: (C, oC) :: (D, LCg.lst ys) :: news) → LCg.Off3 I C D news → ((@Ne Nat I C) ∧ (@Ne Nat I D) ∧ (@Ne Nat C D)) →
        wpAny (model prog w) A (eval elt (compEnvC scope cl C env)) (fun y s₂ => CEnd h₀ L m s ((I, oI) :: (C, oC) :: (D, LCg.lst ys) :: news) (fun ys' _ => Wd r ys') (ys ++ [y]) s₂) E' { s with heap := h, toks := tk })
    (fin : ∀ ys, Wd [] ys → Fin ys news) : ∀ (k i : Nat) (r ys : List Value), r = vs.drop i → k = r.length → Wd r ys →
      LCg.CompRest prog w A h₀ L m env elt x scope cl s (LCg.SrcAt h₀ ax vs.toArray) (fun i v => vs.toArray[i]? = some v) Fin k i ys news
  | 0, i, r, ys, hr, hk, hW => by
    have : r = [] := List.length_eq_zero_iff.mp hk.symm
    subst this
    exact LCg.CompRest.zero (fin ys hW)
  | k + 1, i, [], ys, hr, hk, hW => by cases hk
  | k + 1, i, v :: r, ys, hr, hk, hW => by
    refine LCg.CompRest.succ fun v' I oI C oC D m₂ h tk E' hv hns hx F N off ne => ?_
    have hi : i < vs.length := by
      have := congrArg List.length hr
      rw [List.length_cons, List.length_drop] at this
      omega
    have hd : vs.drop i = vs[i] :: vs.drop (i + 1) := List.drop_eq_getElem_cons hi
    rw [hd] at hr
    have hvv : v' = v := by
      have e1 : vs.toArray[i]? = some vs[i] := by simp [hi]
      rw [hv] at e1
      have e2 := (List.cons.inj hr).1
      rw [e2]; exact Option.some.inj e1
    subst hvv
    refine wpAny_mono (turn v' r ys I oI C oC D m₂ h tk E' hW hns hx F N off ne) (fun y s₂ q => ?_) fun _ _ e => e
    obtain ⟨h', tk', rfl, F', N', hW'⟩ := q
    exact LCg.CompEnd.intro F' N' news (fun _ h => h) off hS (rest_go Wd hS turn fin k (i + 1) r (ys ++ [y]) (List.cons.inj hr).2 (Nat.succ.inj hk) hW')
end
end
-- LX18
theorem again_LX18 : True := by w_top off; (try walk1); trivial
section
noncomputable def lowC (rk : List Int) (i : Int) : Int := ((rk.countP (fun k => decide (k < i)) : Nat) : Int)
noncomputable def upC (rk : List Int) (i : Int) : Int := ((rk.countP (fun k => decide (k ≤ i)) : Nat) : Int)
section
variable (w : World) (p : Program) (loose : List Str) (mean : ExcName → Option Value) (mg mb : Str → Option Value)
theorem bl_row (news : List (Addr × Obj)) (l : Addr) (vs : List Value) (rk : List Int) (n : Nat) (hm : (l, W.listOf vs.toArray n) ∈ news) (hi : IntsAre vs rk) (hfit : rk.length ≤ 1000) (hs : rk.Pairwise (· ≤ ·)) (x : Int) (t : Tok) :
    Spec w p loose mean mg mb 2 news 92 [.ref l, .int x t] [] (isI (lowC rk x) news) := by
  have hlen := hi.length
  have e := cnt_all (fun k => decide (k < x)) rk vs.length (by omega)
  unfold lowC
  rw [← e]
  exact bl_d w p loose mean mg mb news l vs rk n hm (by omega) hlen.symm x t hi (falls_sorted (cuts_lt x) hs)
theorem br_row (news : List (Addr × Obj)) (l : Addr) (vs : List Value) (rk : List Int) (n : Nat) (hm : (l, W.listOf vs.toArray n) ∈ news) (hi : IntsAre vs rk) (hfit : rk.length ≤ 1000) (hs : rk.Pairwise (· ≤ ·)) (x : Int) (t : Tok) :
    Spec w p loose mean mg mb 2 news 74 [.ref l, .int x t] [] (isI (upC rk x) news) := by
  have hlen := hi.length
  have e := cnt_all (fun k => decide (k ≤ x)) rk vs.length (by omega)
  unfold upC
  rw [← e]
  exact br_d w p loose mean mg mb news l vs rk n hm (by omega) hlen.symm x t hi (falls_sorted (cuts_le x) hs)
theorem bl_rests (news : List (Addr × Obj)) (l : Addr) (vs : List Value) (ps : List (Int × Int)) (n : Nat) (T : Tok → Prop) (h : PairsAre news T vs ps) (hm : (l, W.listOf vs.toArray n) ∈ news) (hfit : ps.length ≤ 1000) (hs : (ps.map (·.2)).Pairwise (· ≤ ·)) (x : Int) (t : Tok) :
    Spec w p loose mean mg mb 3 news 92 [.ref l, .int x t] [(Str.ofString "key", .ref 197)] (isI (lowC (ps.map (·.2)) x) news) := by
  have hlen := h.length
  have e := cnt_all (fun k => decide (k < x)) (ps.map (·.2)) vs.length (by rw [List.length_map]; omega)
  unfold lowC
  rw [← e]
  exact bl_e w p loose mean mg mb news l vs (ps.map (·.2)) n hm (by omega) (by rw [List.length_map]; omega) x t 2 197 (key_tail w news) (tails_spec w p loose mean mg mb news h) (falls_sorted (cuts_lt x) hs)
theorem br_rests (news : List (Addr × Obj)) (l : Addr) (vs : List Value) (ps : List (Int × Int)) (n : Nat) (T : Tok → Prop) (h : PairsAre news T vs ps) (hm : (l, W.listOf vs.toArray n) ∈ news) (hfit : ps.length ≤ 1000) (hs : (ps.map (·.2)).Pairwise (· ≤ ·)) (x : Int) (t : Tok) :
    Spec w p loose mean mg mb 3 news 74 [.ref l, .int x t] [(Str.ofString "key", .ref 197)] (isI (upC (ps.map (·.2)) x) news) := by
  have hlen := h.length
  have e := cnt_all (fun k => decide (k ≤ x)) (ps.map (·.2)) vs.length (by rw [List.length_map]; omega)
  unfold upC
  rw [← e]
  exact br_e w p loose mean mg mb news l vs (ps.map (·.2)) n hm (by omega) (by rw [List.length_map]; omega) x t 2 197 (key_tail w news) (tails_spec w p loose mean mg mb news h) (falls_sorted (cuts_le x) hs)
end
theorem low_up : ∀ (rk : List Int) (i : Int), lowC rk i + eqC rk i = upC rk i
  | [], _ => rfl
  | a :: r, i => by
    have ih := low_up r i
    unfold lowC eqC upC at *
    rw [List.countP_cons, List.countP_cons, List.countP_cons]
    by_cases h1 : a < i
    · have h2 : ¬ a = i := by omega
      have h3 : a ≤ i := by omega
      simp only [h1, h2, h3, decide_true, decide_false, if_true, if_false, Bool.false_eq_true]; omega
    · by_cases h2 : a = i
      · have h3 : a ≤ i := by omega
        simp only [h1, h2, h3, decide_true, decide_false, if_true, if_false, Bool.false_eq_true, Int.lt_irrefl, Int.le_refl]; omega
      · have h3 : ¬ a ≤ i := by omega
        simp only [h1, h2, h3, decide_false, if_false, Bool.false_eq_true]; omega
structure SieveOk (b : Int) (rk dg od : List Int) : Prop where
  c1 : ∀ i : Nat, (i : Int) < b → dg.getD i 0 = eqC rk (i : Int)
  c2 : ∀ i : Nat, (i : Int) < b → eqC (od.map fun o => Int.fmod (i : Int) o) 0 = eqC rk (i : Int)
  oz : ∀ o ∈ od, o ≠ 0
theorem tally_at : ∀ (ks c : List Int) (i : Nat), (∀ e ∈ ks, 0 ≤ e ∧ e < ((c.length : Nat) : Int)) → i < c.length → (tallyF c ks).getD i 0 = c.getD i 0 + eqC ks (i : Int)
  | [], c, i, _, _ => by unfold eqC; simp [tallyF]
  | e :: r, c, i, h, hi => by
    have he := h e (.head _)
    show (tallyF (c.set e.toNat (c.getD e.toNat 0 + 1)) r).getD i 0 = _
    rw [tally_at r _ i (fun q hq => by rw [List.length_set]; exact h q (.tail _ hq)) (by rw [List.length_set]; exact hi)]
    unfold eqC
    rw [List.countP_cons]
    by_cases hei : e = (i : Int)
    · have h1 : e.toNat = i := by omega
      have : (c.set e.toNat (c.getD e.toNat 0 + 1)).getD i 0 = c.getD i 0 + 1 := by
        rw [h1, List.getD_eq_getElem?_getD, List.getElem?_set_self hi]; rfl
      rw [this]
      simp only [hei, decide_true, if_true]; omega
    · have h1 : e.toNat ≠ i := by omega
      have : (c.set e.toNat (c.getD e.toNat 0 + 1)).getD i 0 = c.getD i 0 := by
        rw [List.getD_eq_getElem?_getD, List.getElem?_set_ne h1, ← List.getD_eq_getElem?_getD]
      rw [this]
      simp only [hei, decide_false, if_false, Bool.false_eq_true]; omega
theorem tally_is (ks : List Int) (n i : Nat) (h : ∀ e ∈ ks, 0 ≤ e ∧ e < ((n : Nat) : Int)) (hi : i < n) : (tallyF (List.replicate n 0) ks).getD i 0 = eqC ks (i : Int) := by
  rw [tally_at ks _ i (by rw [List.length_replicate]; exact h) (by rw [List.length_replicate]; exact hi)]
  have : (List.replicate n (0 : Int)).getD i 0 = 0 := by rw [List.getD_eq_getElem?_getD, List.getElem?_replicate_of_lt hi]; rfl
  rw [this, Int.zero_add]
theorem tally_len : ∀ (ks c : List Int), (tallyF c ks).length = c.length
  | [], _ => rfl
  | e :: r, c => by
    show (tallyF (c.set _ _) r).length = _
    rw [tally_len r, List.length_set]
end
-- LX19
theorem again_LX19 : True := by w_top off; (try walk1); trivial
section
theorem tok_pos {tk : Nat} {vs : List Value} {ns : List Int} (hT : TokB tk vs) (hi : IntsAre vs ns) (h : 0 < ns.length) : 0 < tk := by
  obtain ⟨t, e⟩ := intsare_getD hi 0 h
  have hl := hi.length
  rw [List.getD_eq_getElem?_getD, List.getElem?_eq_getElem (show 0 < vs.length by omega)] at e
  have hm : Value.int (ns.getD 0 0) t ∈ vs := by rw [← show vs[0] = Value.int (ns.getD 0 0) t from e]; exact List.getElem_mem _
  have := hT _ _ hm
  exact Nat.lt_trans this.1 this.2
theorem eqC_replicate : ∀ (rk : List Int) (i : Int), rk.Pairwise (· ≤ ·) → (rk.drop (lowC rk i).toNat).take (eqC rk i).toNat = List.replicate (eqC rk i).toNat i
  | [], i, _ => rfl
  | a :: r, i, h => by
    have ha : ∀ {b}, b ∈ r → a ≤ b := fun hb => List.rel_of_pairwise_cons h hb
    have ih := eqC_replicate r i (List.Pairwise.of_cons h)
    by_cases h1 : a < i
    · have e1 : lowC (a :: r) i = lowC r i + 1 := by unfold lowC; rw [List.countP_cons_of_pos (by simpa using h1)]; omega
      have e2 : eqC (a :: r) i = eqC r i := by unfold eqC; rw [List.countP_cons_of_neg (by simp; omega)]
      have e3 : (lowC r i + 1).toNat = (lowC r i).toNat + 1 := by unfold lowC; omega
      rw [e1, e2, e3]; exact ih
    · have e1 : lowC (a :: r) i = 0 := by
        unfold lowC
        have : (a :: r).countP (fun k => decide (k < i)) = 0 := by
          rw [List.countP_eq_zero]
          intro b hb
          rcases List.mem_cons.mp hb with rfl | hb
          · simp; omega
          · have := ha hb; simp; omega
        rw [this]; rfl
      have e4 : lowC r i = 0 := by
        unfold lowC at e1 ⊢
        rw [List.countP_cons] at e1
        omega
      rw [e1]
      rw [e4] at ih
      show (a :: r).take _ = _
      by_cases h2 : a = i
      · have e2 : eqC (a :: r) i = eqC r i + 1 := by unfold eqC; rw [List.countP_cons_of_pos (by simpa using h2)]; omega
        have e3 : (eqC r i + 1).toNat = (eqC r i).toNat + 1 := by unfold eqC; omega
        rw [e2, e3, List.take_succ_cons, List.replicate_succ, h2]
        exact congrArg _ ih
      · have e2 : eqC (a :: r) i = 0 := by
          unfold eqC
          have : (a :: r).countP (fun k => decide (k = i)) = 0 := by
            rw [List.countP_eq_zero]
            intro b hb
            rcases List.mem_cons.mp hb with rfl | hb
            · simp; omega
            · have := ha hb; simp; omega
          rw [this]; rfl
        rw [e2]; rfl
theorem filter_range (rk : List Int) (a : Nat) : ∀ n : Nat, a + n ≤ rk.length → ((List.range n).map fun k => a + k).filterMap (rk[·]?) = (rk.drop a).take n
  | 0, _ => rfl
  | n + 1, h => by
    rw [List.range_succ, List.map_append, List.filterMap_append, filter_range rk a n (by omega)]
    have hd : n < (rk.drop a).length := by rw [List.length_drop]; omega
    rw [List.take_succ_eq_append_getElem hd, List.getElem_drop]
    have : rk[a + n]? = some rk[a + n] := List.getElem?_eq_getElem (by omega)
    simp only [List.map_cons, List.map_nil, List.filterMap_cons, this, List.filterMap_nil]
theorem pick_slice (rk : List Int) (a b : Int) (h0 : 0 ≤ a) (h1 : a ≤ b) (h2 : b ≤ (rk.length : Int)) : pickNums rk (some a) (some b) none = (rk.drop a.toNat).take (b - a).toNat := by
  have e : sliceBounds (some a) (some b) none rk.length = (a, b, 1) := by
    unfold sliceBounds
    simp only [Option.getD_none, show (1 : Int) > 0 by decide, if_true]
    have n1 : ¬ a < 0 := by omega
    have n2 : ¬ b < 0 := by omega
    simp only [n1, n2, if_false]
    rw [show min a (rk.length : Int) = a by omega, show min b (rk.length : Int) = b by omega, show max 0 a = a by omega, show max 0 b = b by omega]
  unfold pickNums
  rw [e]
  have e2 : sliceRange a b 1 = (List.range (b - a).toNat).map fun k => a.toNat + k := by
    unfold sliceRange
    simp only [show (1 : Int) > 0 by decide, if_true]
    have e3 : (if a < b then (b - a + 1 - 1) / 1 else 0) = b - a := by
      split
      · rw [Int.ediv_one]; omega
      · omega
    rw [e3]
    apply List.map_congr_left
    intro k _
    omega
  rw [e2]
  exact filter_range rk a.toNat (b - a).toNat (by omega)
theorem slice_is (rk : List Int) (i : Int) (hs : rk.Pairwise (· ≤ ·)) : pickNums rk (some (lowC rk i)) (some (upC rk i)) none = List.replicate (eqC rk i).toNat i := by
  have h1 := low_up rk i
  have h2 : 0 ≤ eqC rk i := Int.natCast_nonneg _
  have h3 : 0 ≤ lowC rk i := Int.natCast_nonneg _
  have h4 : upC rk i ≤ (rk.length : Int) := by
    unfold upC
    have := List.countP_le_length (p := fun k => decide (k ≤ i)) (l := rk)
    omega
  rw [pick_slice rk _ _ h3 (by omega) h4, show upC rk i - lowC rk i = eqC rk i by omega]
  exact eqC_replicate rk i hs
section
variable (w : World) (p : Program) (loose : List Str) (mean : ExcName → Option Value) (mg mb : Str → Option Value)
theorem cof_row (news : List (Addr × Obj)) (l : Addr) (vs : List Value) (ks : List Int) (n : Nat) (hm : (l, W.listOf vs.toArray n) ∈ news) (hi : IntsAre vs ks) (x : Int) (t1 : Tok) (hx : 0 ≤ x) (hx' : x ≤ 256) (ht1 : t1 ≠ 0) (hT : TokOk x t1 vs) (z : Int) (hz : z = eqC ks x) :
    Spec w p loose mean mg mb 1 news 176 [.ref l, .int x t1] [] (isI z news) := by
  rw [hz]
  exact spec_cof w p loose mean mg mb news l vs ks n hm hi x t1 hx hx' ht1 hT
end
theorem eqC_le (rk : List Int) (i : Int) : 0 ≤ eqC rk i ∧ eqC rk i ≤ (rk.length : Int) := by
  unfold eqC
  have := List.countP_le_length (p := fun k => decide (k = i)) (l := rk)
  omega
theorem orders_pos {b dk : Int} (h0 : 4 ≤ b) (h1 : b ≤ 6) (k0 : 2 ≤ dk) (k1 : dk ≤ b - 2) : 0 < (ordersOf b dk).length := by
  have h := ord_all h0 h1 k0 k1
  cases e : ordersOf b dk with
  | cons o r => rw [List.length_cons]; omega
  | nil =>
    rw [e] at h
    have h2 := Nat.eq_of_beq_eq_true (show Nat.beq 0 (kindsOf b (ringsOf b dk)).length = true from h)
    rw [kinds_length] at h2
    have := rings_two h0 h1 k0 k1
    omega
structure ModW (i : Int) (od : List Int) (rest ys : List Value) (tk : Nat) : Prop where
  one : ∃ don r, don ++ r = od ∧ IntsAre rest r ∧ IntsAre ys (don.map fun o => Int.fmod i o)
  two : TokB tk ys
end
-- LY1
theorem again_LY1 : True := by w_top off; (try walk1); trivial
section
theorem subsA_zero (l : List Int) (acc : Int) : subsA l 0 acc = [acc] := by cases l <;> rfl
theorem subsA_perm {l l' : List Int} (h : l.Perm l') : ∀ (k : Nat) (acc : Int), (subsA l k acc).Perm (subsA l' k acc) := by
  induction h with
  | nil => exact fun k acc => .refl _
  | cons x _ ih =>
    intro k acc
    cases k with
    | zero => exact .refl _
    | succ k => exact (ih (k + 1) acc).append (ih k (x + acc))
  | swap x y l =>
    intro k acc
    cases k with
    | zero => exact .refl _
    | succ k =>
      cases k with
      | zero =>
        show (((subsA l 1 acc ++ subsA l 0 (x + acc)) ++ subsA (x :: l) 0 (y + acc))).Perm ((subsA l 1 acc ++ subsA l 0 (y + acc)) ++ subsA (y :: l) 0 (x + acc))
        rw [subsA_zero, subsA_zero, subsA_zero, subsA_zero, List.append_assoc, List.append_assoc]
        exact List.Perm.append_left _ List.perm_append_comm
      | succ k =>
        show (((subsA l (k + 2) acc ++ subsA l (k + 1) (x + acc)) ++ (subsA l (k + 1) (y + acc) ++ subsA l k (x + (y + acc))))).Perm ((subsA l (k + 2) acc ++ subsA l (k + 1) (y + acc)) ++ (subsA l (k + 1) (x + acc) ++ subsA l k (y + (x + acc))))
        rw [show x + (y + acc) = y + (x + acc) by omega, List.append_assoc, List.append_assoc]
        refine List.Perm.append_left _ ?_
        rw [← List.append_assoc, ← List.append_assoc]
        exact List.Perm.append_right _ List.perm_append_comm
  | trans _ _ ih1 ih2 => exact fun k acc => (ih1 k acc).trans (ih2 k acc)
theorem fR_cong {b c x y q : Int} (hb : 0 < b) (h : x = y + b * q) : fR b c x = fR b c y := by
  unfold fR
  rw [Int.fmod_eq_emod_of_nonneg _ (by omega), Int.fmod_eq_emod_of_nonneg _ (by omega), h, show y + b * q - c = (y - c) + b * q by omega, Int.add_mul_emod_self_left]
inductive CongL (b : Int) : List Int → List Int → Prop
  | nil : CongL b [] []
  | cons (x y q : Int) {l l' : List Int} : x = y + b * q → CongL b l l' → CongL b (x :: l) (y :: l')
theorem subsA_cong {b c : Int} (hb : 0 < b) {l l' : List Int} (h : CongL b l l') : ∀ (k : Nat) (acc acc' q : Int), acc = acc' + b * q → (subsA l k acc).map (fR b c) = (subsA l' k acc').map (fR b c) := by
  induction h with
  | nil =>
    intro k acc acc' q e
    cases k with
    | zero => show [fR b c acc] = [fR b c acc']; rw [fR_cong hb e]
    | succ k => rfl
  | cons x y q0 hx _ ih =>
    intro k acc acc' q e
    cases k with
    | zero => show [fR b c acc] = [fR b c acc']; rw [fR_cong hb e]
    | succ k =>
      show (_ ++ _ : List Int).map _ = (_ ++ _ : List Int).map _
      rw [List.map_append, List.map_append, ih (k + 1) acc acc' q e, ih k (x + acc) (y + acc') (q0 + q) (by rw [Int.mul_add]; omega)]
theorem CongL.append {b : Int} {l l' m m' : List Int} (h : CongL b l l') (h' : CongL b m m') : CongL b (l ++ m) (l' ++ m') := by
  induction h with
  | nil => exact h'
  | cons x y q e _ ih => exact .cons x y q e ih
theorem CongL.reverse {b : Int} {l l' : List Int} (h : CongL b l l') : CongL b l.reverse l'.reverse := by
  induction h with
  | nil => exact .nil
  | cons x y q e _ ih => rw [List.reverse_cons, List.reverse_cons]; exact ih.append (.cons x y q e .nil)
theorem congL_of {b : Int} : ∀ (l l' : List Int), l.length = l'.length → (∀ i, i < l.length → ∃ q, l.getD i 0 = l'.getD i 0 + b * q) → CongL b l l'
  | [], [], _, _ => .nil
  | [], _ :: _, h, _ => by cases h
  | _ :: _, [], h, _ => by cases h
  | x :: l, y :: l', h, hh => by
    obtain ⟨q, e⟩ := hh 0 (Nat.zero_lt_succ _)
    exact .cons x y q e (congL_of l l' (Nat.succ.inj h) fun i hi => hh (i + 1) (Nat.succ_lt_succ hi))
theorem dark_subs {b dk : Int} (nums : List Int) (hn : nums.length = b.toNat) (h0 : 4 ≤ b) (h1 : b ≤ 6) (k0 : 2 ≤ dk) (k1 : dk ≤ b - 2) : (ringsOf b dk).map (fun r => (darkOf nums r b.toNat).sum) = subsA nums.reverse dk.toNat 0 := by
  rcases six h0 h1 k0 k1 with ⟨rfl, rfl⟩ | ⟨rfl, rfl⟩ | ⟨rfl, rfl⟩ | ⟨rfl, rfl⟩ | ⟨rfl, rfl⟩ | ⟨rfl, rfl⟩
  · match nums, hn with
    | [a, b, c, d], _ => rfl
  all_goals first
    | (match nums, hn with
      | [a, b, c, d, e], _ => rfl)
    | (match nums, hn with
      | [a, b, c, d, e, f], _ => rfl)
end
-- LY2
theorem again_LY2 : True := by w_top off; (try walk1); trivial
section
theorem rests_perm (b dk : Int) (nums : List Int) : ∀ (rs : List Int) (acc : List (Int × Int)), ((rs.foldl (rStep b dk nums) acc).map (·.2)).Perm (acc.map (·.2) ++ rs.map (restOf b dk nums))
  | [], acc => by rw [List.foldl_nil, List.map_nil, List.append_nil]
  | r :: rs, acc => by
    rw [List.foldl_cons]
    refine (rests_perm b dk nums rs _).trans ?_
    have h1 : ((rStep b dk nums acc r).map (·.2)).Perm (restOf b dk nums r :: acc.map (·.2)) := (insV_perm acc _ (r, restOf b dk nums r)).map (fun p : Int × Int => p.2)
    refine (h1.append_right _).trans ?_
    rw [List.map_cons, List.cons_append]
    exact List.perm_middle.symm
theorem eqC_perm {l l' : List Int} (h : l.Perm l') (i : Int) : eqC l i = eqC l' i := by unfold eqC; rw [h.countP_eq]
theorem row_eqC {b dk : Int} {nums : List Int} (hN : NumsOk b nums) (h0 : 4 ≤ b) (h1 : b ≤ 6) (k0 : 2 ≤ dk) (k1 : dk ≤ b - 2) (i : Int) :
    eqC ((restsOf b dk nums (ringsOf b dk)).map (·.2)) i = eqC ((subsA (idList b).reverse dk.toNat 0).map (fR b (halfOf dk))) i := by
  obtain ⟨ranks, hrk, hnl, hq⟩ := hN
  have hrl := hrk.length_eq
  rw [List.length_range] at hrl
  have p1 := rests_perm b dk nums (ringsOf b dk) []
  rw [List.map_nil, List.nil_append] at p1
  rw [eqC_perm (l := (restsOf b dk nums (ringsOf b dk)).map (·.2)) p1 i]
  have e1 : (ringsOf b dk).map (restOf b dk nums) = ((ringsOf b dk).map (fun r => (darkOf nums r b.toNat).sum)).map (fR b (halfOf dk)) := by
    rw [List.map_map]; rfl
  rw [e1, dark_subs nums hnl h0 h1 k0 k1]
  have hc : CongL b nums (ranks.map fun r : Nat => (r : Int)) := congL_of _ _ (by rw [List.length_map]; omega) fun j hj => by
    obtain ⟨q, e⟩ := hq j (by omega)
    refine ⟨q, ?_⟩
    rw [e, getD_map_lt (fun r : Nat => (r : Int)) ranks 0 0 j (by omega)]
  rw [subsA_cong (by omega) hc.reverse dk.toNat 0 0 0 (by omega)]
  refine eqC_perm (List.Perm.map _ (subsA_perm ?_ _ _)) i
  unfold idList
  exact ((List.reverse_perm _).trans (hrk.map _)).trans (List.reverse_perm _).symm
noncomputable def sieveB (b dk : Int) : Bool := (List.range b.toNat).all fun i => decide (eqC ((ordersOf b dk).map fun o => Int.fmod ((i : Nat) : Int) o) 0 = eqC ((subsA (idList b).reverse dk.toNat 0).map (fR b (halfOf dk))) ((i : Nat) : Int))
noncomputable def nzB (b dk : Int) : Bool := (ordersOf b dk).all fun o => decide (o ≠ 0)
theorem sieve_all {b dk : Int} (h0 : 4 ≤ b) (h1 : b ≤ 6) (k0 : 2 ≤ dk) (k1 : dk ≤ b - 2) : sieveB b dk = true ∧ nzB b dk = true := by
  rcases six h0 h1 k0 k1 with ⟨rfl, rfl⟩ | ⟨rfl, rfl⟩ | ⟨rfl, rfl⟩ | ⟨rfl, rfl⟩ | ⟨rfl, rfl⟩ | ⟨rfl, rfl⟩ <;> exact ⟨by decide +kernel, by decide +kernel⟩
theorem sieve_ok {b dk : Int} {nums : List Int} (hN : NumsOk b nums) (h0 : 4 ≤ b) (h1 : b ≤ 6) (k0 : 2 ≤ dk) (k1 : dk ≤ b - 2) :
    SieveOk b ((restsOf b dk nums (ringsOf b dk)).map (·.2)) (dgOf b dk) (ordersOf b dk) := by
  have hs := sieve_all h0 h1 k0 k1
  refine ⟨fun i hi => ?_, fun i hi => ?_, fun o ho => ?_⟩
  · rw [row_eqC hN h0 h1 k0 k1]
    unfold dgOf
    have hi' : i < b.toNat := by omega
    rw [getD_map_lt _ (List.range b.toNat) 0 0 i (by rw [List.length_range]; exact hi'), show (List.range b.toNat).getD i 0 = i by rw [List.getD_eq_getElem?_getD, List.getElem?_range hi']; rfl]
  · rw [row_eqC hN h0 h1 k0 k1]
    exact of_decide_eq_true (List.all_eq_true.mp hs.1 i (List.mem_range.mpr (by omega)))
  · exact of_decide_eq_true (List.all_eq_true.mp hs.2 o ho)
theorem dg_six : dgOf 4 2 = [2, 1, 2, 1] ∧ dgOf 5 2 = [2, 2, 2, 2, 2] ∧ dgOf 5 3 = [2, 2, 2, 2, 2] ∧ dgOf 6 2 = [3, 2, 3, 2, 3, 2] ∧ dgOf 6 3 = [4, 3, 3, 4, 3, 3] ∧ dgOf 6 4 = [3, 2, 3, 2, 3, 2] := by decide +kernel
end
-- LY3
theorem again_LY3 : True := by w_top off; (try walk1); trivial
section
theorem pow_le2 {a b : Nat} (h : a ≤ b) : (2 : Int) ^ a ≤ 2 ^ b := by
  rcases Nat.lt_or_eq_of_le h with h | h
  · exact Int.le_of_lt (Int.pow_lt_pow_of_lt (by decide) h)
  · rw [h]; exact Int.le_refl _
noncomputable def hor (x : Int) : List Int → Int
  | [] => 0
  | a :: r => a + x * hor x r
theorem hor_lt {x : Int} (hx : 0 < x) : ∀ (l : List Int), (∀ a ∈ l, 0 ≤ a ∧ a < x) → 0 ≤ hor x l ∧ hor x l + 1 ≤ x ^ l.length
  | [], _ => ⟨Int.le_refl _, by show (0 : Int) + 1 ≤ x ^ 0; rw [Int.pow_zero]; decide⟩
  | a :: r, h => by
    have ih := hor_lt hx r fun b hb => h b (.tail _ hb)
    have ha := h a (.head _)
    have h1 : 0 ≤ x * hor x r := Int.mul_nonneg (by omega) ih.1
    have h2 : x * (hor x r + 1) ≤ x * x ^ r.length := Int.mul_le_mul_of_nonneg_left ih.2 (by omega)
    rw [Int.mul_add, Int.mul_one] at h2
    have h3 : x ^ (a :: r).length = x * x ^ r.length := by rw [List.length_cons, Int.pow_succ, Int.mul_comm]
    rw [h3]
    show 0 ≤ a + x * hor x r ∧ a + x * hor x r + 1 ≤ _
    omega
theorem hor_lt2 {x : Int} (hx : 0 < x) (a : Int) (r : List Int) (h : ∀ a ∈ r, 0 ≤ a ∧ a < x) (ha : a + 2 ≤ x) : hor x (a :: r) + 2 ≤ x ^ (a :: r).length := by
  have ih := hor_lt hx r h
  have h2 : x * (hor x r + 1) ≤ x * x ^ r.length := Int.mul_le_mul_of_nonneg_left ih.2 (by omega)
  rw [Int.mul_add, Int.mul_one] at h2
  have h3 : x ^ (a :: r).length = x * x ^ r.length := by rw [List.length_cons, Int.pow_succ, Int.mul_comm]
  rw [h3]
  show a + x * hor x r + 2 ≤ _
  omega
theorem hor_ge {x : Int} (hx : 0 < x) (t : Int) (ht : 1 ≤ t) : ∀ (r : List Int), (∀ a ∈ r, 0 ≤ a) → x ^ r.length ≤ hor x (r ++ [t])
  | [], _ => by show x ^ 0 ≤ t + x * 0; rw [Int.pow_zero]; omega
  | a :: r, h => by
    have ih := hor_ge hx t ht r fun b hb => h b (.tail _ hb)
    have ha := h a (.head _)
    have h2 : x * x ^ r.length ≤ x * hor x (r ++ [t]) := Int.mul_le_mul_of_nonneg_left ih (by omega)
    have h3 : x ^ (a :: r).length = x * x ^ r.length := by rw [List.length_cons, Int.pow_succ, Int.mul_comm]
    rw [h3]
    show _ ≤ a + x * hor x (r ++ [t])
    omega
theorem digs_hor (n : Nat) : ∀ (l : List Int), (∀ a ∈ l, 0 ≤ a ∧ a < 2 ^ n) → digs n l.length (hor (2 ^ n) l) = l
  | [], _ => rfl
  | a :: r, h => by
    have ha := h a (.head _)
    have hx : (0 : Int) < 2 ^ n := Int.pow_pos (by decide)
    show digs n (r.length + 1) (a + 2 ^ n * hor (2 ^ n) r) = a :: r
    rw [digs, Int.add_mul_emod_self_left, Int.emod_eq_of_lt ha.1 ha.2, Int.add_mul_ediv_left _ _ (by omega), Int.ediv_eq_zero_of_lt ha.1 ha.2, Int.zero_add, digs_hor n r fun b hb => h b (.tail _ hb)]
theorem hor_ones (x : Int) : ∀ k : Nat, hor x (List.replicate k (x - 1)) = x ^ k - 1
  | 0 => by show (0 : Int) = x ^ 0 - 1; rw [Int.pow_zero]; rfl
  | k + 1 => by
    show x - 1 + x * hor x (List.replicate k (x - 1)) = _
    rw [hor_ones x k, Int.pow_succ, Int.mul_sub, Int.mul_comm (x ^ k) x]; omega
theorem pw_nat (n k : Nat) : pw (n : Int) (k : Int) = (2 ^ n) ^ k - 1 := by
  unfold pw
  rw [Int.one_mul, ← Int.natCast_mul, Int.toNat_natCast, Int.pow_mul]
theorem bits_ge {x : Int} {m : Nat} (h0 : 0 ≤ x) (h : 2 ^ m ≤ x) : m + 1 ≤ Builtin.Int.intBits x := by
  rcases Nat.lt_or_ge m (Builtin.Int.intBits x) with h1 | h1
  · exact h1
  · exfalso
    have e1 := lt_bits h0
    have e2 : (2 : Int) ^ Builtin.Int.intBits x ≤ 2 ^ m := pow_le2 h1
    omega
theorem dmH_of {n : Nat} (hn : 1 ≤ n) {A B A' B' : Int} (hA : 2 ≤ A) (hA2 : A < 2 ^ (60 * n)) (hB0 : 2 ^ (n - 1) ≤ B) (hB1 : B < 2 ^ 16000) (eA : A' = A ∨ A' = -A) (eB : B' = B ∨ B' = -B) : DmH A' B' := fun a b ha hb hb' ha' => by
  have hBp : (0 : Int) < 2 ^ (n - 1) := Int.pow_pos (by decide)
  have e1 : b = B := by omega
  have e2 : a = A ∨ a = A - 1 := by omega
  subst e1
  refine ⟨by omega, hb, bits_of_lt (by omega) hB1, ?_⟩
  have h1 : Builtin.Int.intBits a ≤ 60 * n := bits_of_lt ha (by omega)
  have h2 : n - 1 + 1 ≤ Builtin.Int.intBits b := bits_ge (by omega) hB0
  omega
theorem ceil_is {n b x : Nat} (hn : 1 ≤ n) (hb : 1 ≤ b) (h1 : n * (b - 1) + 1 ≤ x) (h2 : x ≤ n * b) : ((x : Int) + (n : Int) - 1).fdiv (n : Int) = (b : Int) := by
  rw [Int.fdiv_eq_ediv_of_nonneg _ (by omega)]
  obtain ⟨c, rfl⟩ : ∃ c, b = c + 1 := ⟨b - 1, by omega⟩
  have e1 : n * (c + 1) = n * c + n := Nat.mul_succ n c
  have e2 : c + 1 - 1 = c := by omega
  rw [e2] at h1
  obtain ⟨d, hd⟩ : ∃ d : Nat, x + n - 1 = n * (c + 1) + d ∧ d < n := ⟨x + n - 1 - n * (c + 1), by omega⟩
  have e3 : (x : Int) + (n : Int) - 1 = (d : Int) + (n : Int) * ((c + 1 : Nat) : Int) := by
    have := hd.1
    rw [← Int.natCast_mul]
    omega
  rw [e3, Int.add_mul_ediv_left _ _ (by omega), Int.ediv_eq_zero_of_lt (by omega) (by omega), Int.zero_add]
theorem mul_lt_pow {w z : Int} {p q : Nat} (hw : 0 ≤ w) (hw1 : w < 2 ^ p) (hz : 0 ≤ z) (hz1 : z < 2 ^ q) : w * z < 2 ^ (p + q) := by
  have hp : (0 : Int) < 2 ^ p := Int.pow_pos (by decide)
  have h1 : w * z ≤ 2 ^ p * z := Int.mul_le_mul_of_nonneg_right (by omega) hz
  have h2 : 2 ^ p * (z + 1) ≤ 2 ^ p * 2 ^ q := Int.mul_le_mul_of_nonneg_left (by omega) (by omega)
  rw [Int.mul_add, Int.mul_one] at h2
  rw [Int.pow_add]
  omega
end
-- LY4
theorem again_LY4 : True := by w_top off; (try walk1); trivial
section
theorem powX (n k : Nat) : ((2 : Int) ^ n) ^ k = 2 ^ (n * k) := Int.pow_mul.symm
theorem pwX_ge {n k : Nat} (hn : 3 ≤ n) (hk : 1 ≤ k) : 2 ^ (n - 1) ≤ ((2 : Int) ^ n) ^ k - 1 ∧ 2 ≤ ((2 : Int) ^ n) ^ k - 1 := by
  rw [powX]
  have h1 : (2 : Int) ^ n ≤ 2 ^ (n * k) := pow_le2 (by calc n = n * 1 := (Nat.mul_one n).symm
    _ ≤ n * k := Nat.mul_le_mul_left n hk)
  have h2 : (2 : Int) ^ n = 2 * 2 ^ (n - 1) := by
    obtain ⟨m, rfl⟩ : ∃ m, n = m + 1 := ⟨n - 1, by omega⟩
    rw [Int.pow_succ, Int.mul_comm]; rfl
  have h3 : (2 : Int) ^ 2 ≤ 2 ^ (n - 1) := pow_le2 (by omega)
  have h4 : (2 : Int) ^ 2 = 4 := by decide
  omega
theorem x8 {n : Nat} (hn : 3 ≤ n) : (8 : Int) ≤ 2 ^ n := by
  have h := pow_le2 hn
  have : (2 : Int) ^ 3 = 8 := by decide
  omega
structure WL (nb kd : Nat) (wl : List (List Int)) (tl ol : List Int) : Prop where
  w0 : wl.getD 0 [] = [1]
  st : ∀ x : Int, ∀ j, j < kd → hor x (wl.getD j []) * (x ^ (nb - kd + (1 + j)) - 1) = hor x (wl.getD (j + 1) []) * (x ^ (1 + j) - 1)
  sm : ∀ j, j ≤ kd → (wl.getD j []).length ≤ 10 ∧ ∀ a ∈ wl.getD j [], 0 ≤ a ∧ a < 8
  hd : ∀ j, j ≤ kd → ∃ r, wl.getD j [] = 1 :: r
  fin : ∀ x : Int, hor x (wl.getD kd []) = hor x tl * (x ^ nb - 1) + hor x ol
  t1 : tl.length ≤ 4 ∧ ∀ a ∈ tl, 0 ≤ a ∧ a < 8
  o1 : ol.length = nb ∧ ∀ a ∈ ol, 1 ≤ a ∧ a < 6
theorem gauss_of {n nb kd : Nat} (hn : 3 ≤ n) (hn2 : n ≤ 1602) (b0 : 4 ≤ nb) (b1 : nb ≤ 6) (k0 : 2 ≤ kd) (k1 : kd ≤ nb - 2) {wl : List (List Int)} {tl ol : List Int} (H : WL nb kd wl tl ol) (hdg : ol = dgOf (nb : Int) (kd : Int)) :
    GaussOk (nb : Int) (kd : Int) (n : Int) (fun j => hor (2 ^ n) (wl.getD j [])) (hor (2 ^ n) tl) (hor (2 ^ n) ol) ol := by
  have hx8 := x8 hn
  have hxp : (0 : Int) < 2 ^ n := by omega
  have hW : ∀ j, j ≤ kd → 1 ≤ hor (2 ^ n) (wl.getD j []) ∧ hor (2 ^ n) (wl.getD j []) < 2 ^ (10 * n) := fun j hj => by
    obtain ⟨hl, hc⟩ := H.sm j hj
    have h1 := hor_lt hxp (wl.getD j []) fun a ha => by have := hc a ha; omega
    obtain ⟨r, hr⟩ := H.hd j hj
    have h2 := hor_lt hxp r fun a ha => by have := hc a (by rw [hr]; exact .tail _ ha); omega
    have h3 : (0 : Int) ≤ 2 ^ n * hor (2 ^ n) r := Int.mul_nonneg (by omega) h2.1
    have h4 : hor (2 ^ n) (wl.getD j []) = 1 + 2 ^ n * hor (2 ^ n) r := by rw [hr]; rfl
    refine ⟨by omega, ?_⟩
    have h5 : ((2 : Int) ^ n) ^ (wl.getD j []).length ≤ 2 ^ (10 * n) := by rw [powX, Nat.mul_comm 10 n]; exact pow_le2 (Nat.mul_le_mul_left n hl)
    omega
  have hP : ∀ k : Nat, 1 ≤ k → k ≤ 6 → 2 ^ (n - 1) ≤ ((2 : Int) ^ n) ^ k - 1 ∧ 2 ≤ ((2 : Int) ^ n) ^ k - 1 ∧ ((2 : Int) ^ n) ^ k - 1 < 2 ^ (6 * n) ∧ ((2 : Int) ^ n) ^ k - 1 < 2 ^ 16000 := fun k hk hk6 => by
    have h := pwX_ge hn hk
    have h5 : ((2 : Int) ^ n) ^ k ≤ 2 ^ (6 * n) := by rw [powX, Nat.mul_comm 6 n]; exact pow_le2 (Nat.mul_le_mul_left n hk6)
    have h6 : (2 : Int) ^ (6 * n) ≤ 2 ^ 16000 := pow_le2 (by omega)
    exact ⟨h.1, h.2, by omega, by omega⟩
  have eA : ∀ j : Nat, j < kd → (nb : Int) - (kd : Int) + (1 + (j : Int)) = ((nb - kd + (1 + j) : Nat) : Int) := fun j hj => by omega
  have eB : ∀ j : Nat, (1 : Int) + (j : Int) = ((1 + j : Nat) : Int) := fun j => by omega
  have eK : (kd : Int).toNat = kd := Int.toNat_natCast kd
  have big : ∀ {x : Int}, 0 ≤ x → x < 2 ^ (10 * n) → Builtin.Int.intBits x ≤ 2 ^ 20 := fun h0 h1 => Nat.le_trans (bits_of_lt h0 h1) (by omega)
  have l6 : (2 : Int) ^ (6 * n) ≤ 2 ^ (10 * n) := pow_le2 (by omega)
  have hWk := hW kd (Nat.le_refl _)
  have hPb := hP nb (by omega) b1
  have hT := hor_lt hxp tl fun a ha => by have := H.t1.2 a ha; omega
  have hO := hor_lt hxp ol fun a ha => by have := H.o1.2 a ha; omega
  have hT2 : ((2 : Int) ^ n) ^ tl.length ≤ 2 ^ (10 * n) := by rw [powX, Nat.mul_comm 10 n]; exact pow_le2 (Nat.mul_le_mul_left n (by have := H.t1.1; omega))
  have hOl : ((2 : Int) ^ n) ^ ol.length = ((2 : Int) ^ n) ^ nb := by rw [H.o1.1]
  have hO1 : 1 ≤ hor (2 ^ n) ol ∧ hor (2 ^ n) ol + 2 ≤ ((2 : Int) ^ n) ^ nb ∧ ((2 : Int) ^ n) ^ (nb - 1) ≤ hor (2 ^ n) ol := by
    have hlen := H.o1.1
    have hc := H.o1.2
    have hge : ((2 : Int) ^ n) ^ (nb - 1) ≤ hor (2 ^ n) ol := by
      rcases List.eq_nil_or_concat ol with e | ⟨r, t, e⟩
      · rw [e] at hlen; simp at hlen; omega
      · rw [List.concat_eq_append] at e
        rw [e] at hlen hc ⊢
        have := hor_ge hxp t (hc t (List.mem_append_right _ (.head _))).1 r (fun a ha => by have := hc a (List.mem_append_left _ ha); omega)
        rw [List.length_append, List.length_singleton] at hlen
        rw [show nb - 1 = r.length by omega]
        exact this
    cases ol with
    | nil => simp at hlen; omega
    | cons a r =>
      have h2 := hor_lt2 hxp a r (fun q hq => by have := hc q (.tail _ hq); omega) (by have := hc a (.head _); omega)
      have h3 := hor_lt hxp r fun q hq => by have := hc q (.tail _ hq); omega
      have h4 : (0 : Int) ≤ 2 ^ n * hor (2 ^ n) r := Int.mul_nonneg (by omega) h3.1
      have h5 : hor (2 ^ n) (a :: r) = a + 2 ^ n * hor (2 ^ n) r := rfl
      have h6 := (hc a (.head _)).1
      rw [hOl] at h2
      exact ⟨by omega, h2, hge⟩
  have hdm : ∀ {A' B' : Int}, (A' = hor (2 ^ n) (wl.getD kd []) ∨ A' = -hor (2 ^ n) (wl.getD kd [])) → (B' = ((2 : Int) ^ n) ^ nb - 1 ∨ B' = -(((2 : Int) ^ n) ^ nb - 1)) → 2 ≤ hor (2 ^ n) (wl.getD kd []) → DmH A' B' := fun ea eb h2 =>
    dmH_of (by omega) h2 (Int.lt_of_lt_of_le hWk.2 (pow_le2 (by omega))) hPb.1 hPb.2.2.2 ea eb
  have hW2 : 2 ≤ hor (2 ^ n) (wl.getD kd []) := by
    have e := H.fin (2 ^ n)
    have h1 : 0 ≤ hor (2 ^ n) tl * (((2 : Int) ^ n) ^ nb - 1) := Int.mul_nonneg hT.1 (by omega)
    have h2 : (2 : Int) ^ 1 ≤ ((2 : Int) ^ n) ^ (nb - 1) := by rw [powX]; exact pow_le2 (by calc 1 ≤ n * 1 := by omega
      _ ≤ n * (nb - 1) := Nat.mul_le_mul_left n (by omega))
    have h3 : (2 : Int) ^ 1 = 2 := by decide
    omega
  refine ⟨by show hor (2 ^ n) (wl.getD 0 []) = 1; rw [H.w0]; show 1 + 2 ^ n * 0 = (1 : Int); omega, fun j hj => ?_, fun j hj => ?_, fun j hj => ?_, fun j hj => ?_, ?_, by omega, ?_, ?_, ?_, ?_, ?_, ?_, ?_, ?_, ?_, ?_, ?_, ?_, ?_, ?_, hdg⟩
  · rw [eA j (by omega), eB j, pw_nat, pw_nat]; exact H.st _ j (by omega)
  · rw [eA j (by omega), pw_nat]
    have h1 := hW j (by omega)
    have h2 := hP (nb - kd + (1 + j)) (by omega) (by omega)
    exact IntMulOk.of_bits (big (by omega) h1.2) (big (by omega) (by omega))
  · rw [eB j, pw_nat]
    have := hP (1 + j) (by omega) (by omega)
    omega
  · rw [eA j (by omega), eB j, pw_nat, pw_nat]
    have h1 := hW j (by omega)
    have h2 := hP (nb - kd + (1 + j)) (by omega) (by omega)
    have h3 := hP (1 + j) (by omega) (by omega)
    have h4 := mul_lt_pow (by omega : 0 ≤ hor (2 ^ n) (wl.getD j [])) h1.2 (by omega) h2.2.2.1
    have h5 : (2 : Int) ^ (10 * n + 6 * n) ≤ 2 ^ (60 * n) := pow_le2 (by omega)
    have h6 : 1 * (((2 : Int) ^ n) ^ (nb - kd + (1 + j)) - 1) ≤ hor (2 ^ n) (wl.getD j []) * (((2 : Int) ^ n) ^ (nb - kd + (1 + j)) - 1) := Int.mul_le_mul_of_nonneg_right h1.1 (by omega)
    exact dmH_of (by omega) (by omega) (by omega) h3.1 h3.2.2.2 (.inl rfl) (.inl rfl)
  · rw [eK, pw_nat]; exact H.fin _
  · rw [pw_nat]; omega
  · rw [pw_nat]; exact IntMulOk.of_bits (big hT.1 (by omega)) (big (by omega) (by omega))
  · rw [eK, pw_nat]; exact hdm (.inl rfl) (.inl rfl) hW2
  · rw [eK, pw_nat]; exact hdm (.inr rfl) (.inl rfl) hW2
  · rw [eK, pw_nat]; exact hdm (.inl rfl) (.inr rfl) hW2
  · rw [eK, pw_nat]; exact hdm (.inr rfl) (.inr rfl) hW2
  · rw [pw_nat]; exact IntMulOk.of_bits (big (by omega) (by omega)) (big (by omega) (by omega))
  · rw [pw_nat]
    have h4 := mul_lt_pow (by omega : 0 ≤ ((2 : Int) ^ n) ^ nb - 1) hPb.2.2.1 (by omega) hPb.2.2.1
    have h5 : (2 : Int) ^ (6 * n + 6 * n) ≤ 2 ^ (60 * n) := pow_le2 (by omega)
    have h6 : 2 * (((2 : Int) ^ n) ^ nb - 1) ≤ (((2 : Int) ^ n) ^ nb - 1) * (((2 : Int) ^ n) ^ nb - 1) := Int.mul_le_mul_of_nonneg_right hPb.2.1 (by omega)
    exact dmH_of (by omega) (by omega) (by omega) hPb.1 hPb.2.2.2 (.inl rfl) (.inl rfl)
  · refine ceil_is (by omega) (by omega) (bits_ge (by omega) ?_) (bits_of_lt (by omega) ?_)
    · rw [← powX]; exact hO1.2.2
    · rw [← powX]; omega
  · rw [Int.toNat_natCast, Int.toNat_natCast, ← powX]; omega
  · rw [Int.toNat_natCast, Int.toNat_natCast, ← H.o1.1]
    exact digs_hor n ol fun a ha => by have := H.o1.2 a ha; omega
  · rw [pw_nat]
    refine ceil_is (by omega) (by omega) (bits_ge (by omega) ?_) (bits_of_lt (by omega) ?_)
    · rw [← powX]; omega
    · rw [← powX]; omega
  · rw [pw_nat, Int.toNat_natCast, Int.toNat_natCast, ← powX]; omega
  · have e1 : pw (n : Int) 1 = 2 ^ n - 1 := by have := pw_nat n 1; rw [Int.pow_one] at this; exact this
    rw [pw_nat, Int.toNat_natCast, Int.toNat_natCast, e1, ← hor_ones]
    have h := digs_hor n (List.replicate nb (2 ^ n - 1)) fun a ha => by have := List.eq_of_mem_replicate ha; omega
    rw [List.length_replicate] at h
    exact h
end
-- LY5
theorem again_LY5 : True := by w_top off; (try walk1); trivial
section
theorem wl42 : WL 4 2 [[1], [1, 1, 1], [1, 1, 2, 1, 1]] [1] [2, 1, 2, 1] := by
  refine ⟨rfl, fun x j hj => ?_, fun j hj => ?_, fun j hj => ?_, fun x => ?_, ⟨by decide, by decide⟩, ⟨rfl, by decide⟩⟩
  · match j, hj with
    | 0, _ => show hor x [1] * (x ^ 3 - 1) = hor x [1, 1, 1] * (x ^ 1 - 1); simp only [hor]; grind
    | 1, _ => show hor x [1, 1, 1] * (x ^ 4 - 1) = hor x [1, 1, 2, 1, 1] * (x ^ 2 - 1); simp only [hor]; grind
  · match j, hj with
    | 0, _ => exact ⟨by decide, by decide⟩
    | 1, _ => exact ⟨by decide, by decide⟩
    | 2, _ => exact ⟨by decide, by decide⟩
  · match j, hj with
    | 0, _ => exact ⟨_, rfl⟩
    | 1, _ => exact ⟨_, rfl⟩
    | 2, _ => exact ⟨_, rfl⟩
  · show hor x [1, 1, 2, 1, 1] = hor x [1] * (x ^ 4 - 1) + hor x [2, 1, 2, 1]; simp only [hor]; grind
theorem wl52 : WL 5 2 [[1], [1, 1, 1, 1], [1, 1, 2, 2, 2, 1, 1]] [1, 1] [2, 2, 2, 2, 2] := by
  refine ⟨rfl, fun x j hj => ?_, fun j hj => ?_, fun j hj => ?_, fun x => ?_, ⟨by decide, by decide⟩, ⟨rfl, by decide⟩⟩
  · match j, hj with
    | 0, _ => show hor x [1] * (x ^ 4 - 1) = hor x [1, 1, 1, 1] * (x ^ 1 - 1); simp only [hor]; grind
    | 1, _ => show hor x [1, 1, 1, 1] * (x ^ 5 - 1) = hor x [1, 1, 2, 2, 2, 1, 1] * (x ^ 2 - 1); simp only [hor]; grind
  · match j, hj with
    | 0, _ => exact ⟨by decide, by decide⟩
    | 1, _ => exact ⟨by decide, by decide⟩
    | 2, _ => exact ⟨by decide, by decide⟩
  · match j, hj with
    | 0, _ => exact ⟨_, rfl⟩
    | 1, _ => exact ⟨_, rfl⟩
    | 2, _ => exact ⟨_, rfl⟩
  · show hor x [1, 1, 2, 2, 2, 1, 1] = hor x [1, 1] * (x ^ 5 - 1) + hor x [2, 2, 2, 2, 2]; simp only [hor]; grind
theorem wl53 : WL 5 3 [[1], [1, 1, 1], [1, 1, 2, 1, 1], [1, 1, 2, 2, 2, 1, 1]] [1, 1] [2, 2, 2, 2, 2] := by
  refine ⟨rfl, fun x j hj => ?_, fun j hj => ?_, fun j hj => ?_, fun x => ?_, ⟨by decide, by decide⟩, ⟨rfl, by decide⟩⟩
  · match j, hj with
    | 0, _ => show hor x [1] * (x ^ 3 - 1) = hor x [1, 1, 1] * (x ^ 1 - 1); simp only [hor]; grind
    | 1, _ => show hor x [1, 1, 1] * (x ^ 4 - 1) = hor x [1, 1, 2, 1, 1] * (x ^ 2 - 1); simp only [hor]; grind
    | 2, _ => show hor x [1, 1, 2, 1, 1] * (x ^ 5 - 1) = hor x [1, 1, 2, 2, 2, 1, 1] * (x ^ 3 - 1); simp only [hor]; grind
  · match j, hj with
    | 0, _ => exact ⟨by decide, by decide⟩
    | 1, _ => exact ⟨by decide, by decide⟩
    | 2, _ => exact ⟨by decide, by decide⟩
    | 3, _ => exact ⟨by decide, by decide⟩
  · match j, hj with
    | 0, _ => exact ⟨_, rfl⟩
    | 1, _ => exact ⟨_, rfl⟩
    | 2, _ => exact ⟨_, rfl⟩
    | 3, _ => exact ⟨_, rfl⟩
  · show hor x [1, 1, 2, 2, 2, 1, 1] = hor x [1, 1] * (x ^ 5 - 1) + hor x [2, 2, 2, 2, 2]; simp only [hor]; grind
theorem wl62 : WL 6 2 [[1], [1, 1, 1, 1, 1], [1, 1, 2, 2, 3, 2, 2, 1, 1]] [2, 1, 1] [3, 2, 3, 2, 3, 2] := by
  refine ⟨rfl, fun x j hj => ?_, fun j hj => ?_, fun j hj => ?_, fun x => ?_, ⟨by decide, by decide⟩, ⟨rfl, by decide⟩⟩
  · match j, hj with
    | 0, _ => show hor x [1] * (x ^ 5 - 1) = hor x [1, 1, 1, 1, 1] * (x ^ 1 - 1); simp only [hor]; grind
    | 1, _ => show hor x [1, 1, 1, 1, 1] * (x ^ 6 - 1) = hor x [1, 1, 2, 2, 3, 2, 2, 1, 1] * (x ^ 2 - 1); simp only [hor]; grind
  · match j, hj with
    | 0, _ => exact ⟨by decide, by decide⟩
    | 1, _ => exact ⟨by decide, by decide⟩
    | 2, _ => exact ⟨by decide, by decide⟩
  · match j, hj with
    | 0, _ => exact ⟨_, rfl⟩
    | 1, _ => exact ⟨_, rfl⟩
    | 2, _ => exact ⟨_, rfl⟩
  · show hor x [1, 1, 2, 2, 3, 2, 2, 1, 1] = hor x [2, 1, 1] * (x ^ 6 - 1) + hor x [3, 2, 3, 2, 3, 2]; simp only [hor]; grind
theorem wl63 : WL 6 3 [[1], [1, 1, 1, 1], [1, 1, 2, 2, 2, 1, 1], [1, 1, 2, 3, 3, 3, 3, 2, 1, 1]] [3, 2, 1, 1] [4, 3, 3, 4, 3, 3] := by
  refine ⟨rfl, fun x j hj => ?_, fun j hj => ?_, fun j hj => ?_, fun x => ?_, ⟨by decide, by decide⟩, ⟨rfl, by decide⟩⟩
  · match j, hj with
    | 0, _ => show hor x [1] * (x ^ 4 - 1) = hor x [1, 1, 1, 1] * (x ^ 1 - 1); simp only [hor]; grind
    | 1, _ => show hor x [1, 1, 1, 1] * (x ^ 5 - 1) = hor x [1, 1, 2, 2, 2, 1, 1] * (x ^ 2 - 1); simp only [hor]; grind
    | 2, _ => show hor x [1, 1, 2, 2, 2, 1, 1] * (x ^ 6 - 1) = hor x [1, 1, 2, 3, 3, 3, 3, 2, 1, 1] * (x ^ 3 - 1); simp only [hor]; grind
  · match j, hj with
    | 0, _ => exact ⟨by decide, by decide⟩
    | 1, _ => exact ⟨by decide, by decide⟩
    | 2, _ => exact ⟨by decide, by decide⟩
    | 3, _ => exact ⟨by decide, by decide⟩
  · match j, hj with
    | 0, _ => exact ⟨_, rfl⟩
    | 1, _ => exact ⟨_, rfl⟩
    | 2, _ => exact ⟨_, rfl⟩
    | 3, _ => exact ⟨_, rfl⟩
  · show hor x [1, 1, 2, 3, 3, 3, 3, 2, 1, 1] = hor x [3, 2, 1, 1] * (x ^ 6 - 1) + hor x [4, 3, 3, 4, 3, 3]; simp only [hor]; grind
theorem wl64 : WL 6 4 [[1], [1, 1, 1], [1, 1, 2, 1, 1], [1, 1, 2, 2, 2, 1, 1], [1, 1, 2, 2, 3, 2, 2, 1, 1]] [2, 1, 1] [3, 2, 3, 2, 3, 2] := by
  refine ⟨rfl, fun x j hj => ?_, fun j hj => ?_, fun j hj => ?_, fun x => ?_, ⟨by decide, by decide⟩, ⟨rfl, by decide⟩⟩
  · match j, hj with
    | 0, _ => show hor x [1] * (x ^ 3 - 1) = hor x [1, 1, 1] * (x ^ 1 - 1); simp only [hor]; grind
    | 1, _ => show hor x [1, 1, 1] * (x ^ 4 - 1) = hor x [1, 1, 2, 1, 1] * (x ^ 2 - 1); simp only [hor]; grind
    | 2, _ => show hor x [1, 1, 2, 1, 1] * (x ^ 5 - 1) = hor x [1, 1, 2, 2, 2, 1, 1] * (x ^ 3 - 1); simp only [hor]; grind
    | 3, _ => show hor x [1, 1, 2, 2, 2, 1, 1] * (x ^ 6 - 1) = hor x [1, 1, 2, 2, 3, 2, 2, 1, 1] * (x ^ 4 - 1); simp only [hor]; grind
  · match j, hj with
    | 0, _ => exact ⟨by decide, by decide⟩
    | 1, _ => exact ⟨by decide, by decide⟩
    | 2, _ => exact ⟨by decide, by decide⟩
    | 3, _ => exact ⟨by decide, by decide⟩
    | 4, _ => exact ⟨by decide, by decide⟩
  · match j, hj with
    | 0, _ => exact ⟨_, rfl⟩
    | 1, _ => exact ⟨_, rfl⟩
    | 2, _ => exact ⟨_, rfl⟩
    | 3, _ => exact ⟨_, rfl⟩
    | 4, _ => exact ⟨_, rfl⟩
  · show hor x [1, 1, 2, 2, 3, 2, 2, 1, 1] = hor x [2, 1, 1] * (x ^ 6 - 1) + hor x [3, 2, 3, 2, 3, 2]; simp only [hor]; grind
theorem gauss_all {b dk wd : Int} (h0 : 4 ≤ b) (h1 : b ≤ 6) (k0 : 2 ≤ dk) (k1 : dk ≤ b - 2) (w0 : 3 ≤ wd) (w1 : wd ≤ 1602) : ∃ (Wy : Nat → Int) (tn ov : Int), GaussOk b dk wd Wy tn ov (dgOf b dk) := by
  obtain ⟨n, rfl⟩ : ∃ n : Nat, wd = (n : Int) := ⟨wd.toNat, by omega⟩
  obtain ⟨g42, g52, g53, g62, g63, g64⟩ := dg_six
  rcases six h0 h1 k0 k1 with ⟨rfl, rfl⟩ | ⟨rfl, rfl⟩ | ⟨rfl, rfl⟩ | ⟨rfl, rfl⟩ | ⟨rfl, rfl⟩ | ⟨rfl, rfl⟩
  · rw [g42]; exact ⟨_, _, _, gauss_of (nb := 4) (kd := 2) (by omega) (by omega) (by decide) (by decide) (by decide) (by decide) wl42 g42.symm⟩
  · rw [g52]; exact ⟨_, _, _, gauss_of (nb := 5) (kd := 2) (by omega) (by omega) (by decide) (by decide) (by decide) (by decide) wl52 g52.symm⟩
  · rw [g53]; exact ⟨_, _, _, gauss_of (nb := 5) (kd := 3) (by omega) (by omega) (by decide) (by decide) (by decide) (by decide) wl53 g53.symm⟩
  · rw [g62]; exact ⟨_, _, _, gauss_of (nb := 6) (kd := 2) (by omega) (by omega) (by decide) (by decide) (by decide) (by decide) wl62 g62.symm⟩
  · rw [g63]; exact ⟨_, _, _, gauss_of (nb := 6) (kd := 3) (by omega) (by omega) (by decide) (by decide) (by decide) (by decide) wl63 g63.symm⟩
  · rw [g64]; exact ⟨_, _, _, gauss_of (nb := 6) (kd := 4) (by omega) (by omega) (by decide) (by decide) (by decide) (by decide) wl64 g64.symm⟩
end
-- LV
theorem again_LV : True := by w_top off; (try walk1); trivial
section
def P0 (w : World) (p : Program) (loose : List Str) (mean : ExcName → Option Value) (mg : Str → Option Value) (mb : Str → Option Value) (fa : Addr) (h₀ : Heap) (L : Addr) (hp : Heap) (gs : Array GenState) (dr : Drawn) (tk0 : Nat) (os0 : OsState) (Q : Flow → Shared → Prop) (E : Value → Shared → Prop) (rest : List Stmt) (u : Str → Option Value) (o1 : Obj) (o2 : Obj) (o3 : Obj) (o4 : Obj) (o5 : Obj) (o6 : Obj) (o7 : Obj) (sl : Addr) (vs : List Value) (ns : List Int) : Prop :=
    Below callerA h₀ [] h₀ → (hd.heap_39 w.params).In h₀ → Top p loose mean mg mb h₀ → CodeHd h₀ 41 37 → CodeHd h₀ 34 30 → CodeHd h₀ 236 234 → LawOwn w L fa E → @LT.lt Nat _ 37 L → @LT.lt Nat _ 30 L → @LT.lt Nat _ 234 L →
    Fr h₀ L hp (kstB u []) → News h₀ L hp ([(L + 1 + 1 + 1 + 1 + 1 + 1 + 1, o7), (L + 1 + 1 + 1 + 1 + 1 + 1, o6), (L + 1 + 1 + 1 + 1 + 1, o5), (L + 1 + 1 + 1 + 1, o4), (L + 1 + 1 + 1, o3), (L + 1 + 1, o2), (L + 1, o1), (37, tabObj #[]), (30, tabObj #[]), (234, tabObj #[])]) →
    (o1.data = .cell (some (.ref sl))) → (o2.data = .cell none) → (o3.data = .cell none) → (o4.data = .cell none) → (o5.data = .cell none) → (o6.data = .cell none) → (o7.data = .cell none) → (h₀.IsList sl vs.toArray) → (IntsAre vs ns) → (ns.length ≤ 63) → 
    (∀ (hp' : Heap) (tk' : Nat) (u' : Str → Option Value) (o1 o2 o3 o4 o5 o6 o7 : Obj) (S D : Addr) (ys : List Value) (cs : List Int) (b dk wd : Int) (tb td tw : Tok), Fr h₀ L hp' (kstB u' [(Str.ofString "dark", .int dk td), (Str.ofString "width", .int wd tw)]) → News h₀ L hp' ([(S, W.listOf #[] 0), (D, LCg.lst ys), (L + 1 + 1 + 1 + 1 + 1 + 1 + 1, o7), (L + 1 + 1 + 1 + 1 + 1 + 1, o6), (L + 1 + 1 + 1 + 1 + 1, o5), (L + 1 + 1 + 1 + 1, o4), (L + 1 + 1 + 1, o3), (L + 1 + 1, o2), (L + 1, o1), (37, tabObj #[]), (30, tabObj #[]), (234, tabObj #[])]) →
      (o2.data = .cell (some (.int b tb))) → (o3.data = .cell (some (.ref S))) → (o4.data = .cell none) → (o5.data = .cell none) → (o6.data = .cell none) → (o7.data = .cell (some (.ref D))) → (IntsAre ys cs) → (cs.length = 8) → (@LT.lt Nat _ (L + 1 + 1 + 1 + 1 + 1 + 1 + 1) (D)) → (@LT.lt Nat _ (D) (S)) → (4 ≤ b) → (b ≤ 6) → (2 ≤ dk) → (dk ≤ b - 2) → (3 ≤ wd) → (wd ≤ 1602) →  LawRun w L fa rest Q E { heap := hp', gens := gs, drawn := dr, toks := tk', os := os0 }) →
    LawRun w L fa (hdS (lawBody w) :: hdS (List.tail (lawBody w)) :: hdS (List.tail (List.tail (lawBody w))) :: hdS (List.tail (List.tail (List.tail (lawBody w)))) :: hdS (List.tail (List.tail (List.tail (List.tail (lawBody w))))) :: rest) Q E { heap := hp, gens := gs, drawn := dr, toks := tk0, os := os0 }
def P5 (w : World) (p : Program) (loose : List Str) (mean : ExcName → Option Value) (mg : Str → Option Value) (mb : Str → Option Value) (fa : Addr) (h₀ : Heap) (L : Addr) (hp : Heap) (gs : Array GenState) (dr : Drawn) (tk0 : Nat) (os0 : OsState) (Q : Flow → Shared → Prop) (E : Value → Shared → Prop) (rest : List Stmt) (u : Str → Option Value) (o1 : Obj) (o2 : Obj) (o3 : Obj) (o4 : Obj) (o5 : Obj) (o6 : Obj) (o7 : Obj) (S : Addr) (D : Addr) (ys : List Value) (cs : List Int) (b : Int) (dk : Int) (wd : Int) (tb : Tok) (td : Tok) (tw : Tok) : Prop :=
    Below callerA h₀ [] h₀ → (hd.heap_39 w.params).In h₀ → Top p loose mean mg mb h₀ → CodeHd h₀ 41 37 → CodeHd h₀ 34 30 → CodeHd h₀ 236 234 → LawOwn w L fa E → @LT.lt Nat _ 37 L → @LT.lt Nat _ 30 L → @LT.lt Nat _ 234 L →
    Fr h₀ L hp (kstB u [(Str.ofString "dark", .int dk td), (Str.ofString "width", .int wd tw)]) → News h₀ L hp ([(S, W.listOf #[] 0), (D, LCg.lst ys), (L + 1 + 1 + 1 + 1 + 1 + 1 + 1, o7), (L + 1 + 1 + 1 + 1 + 1 + 1, o6), (L + 1 + 1 + 1 + 1 + 1, o5), (L + 1 + 1 + 1 + 1, o4), (L + 1 + 1 + 1, o3), (L + 1 + 1, o2), (L + 1, o1), (37, tabObj #[]), (30, tabObj #[]), (234, tabObj #[])]) →
    (o2.data = .cell (some (.int b tb))) → (o3.data = .cell (some (.ref S))) → (o4.data = .cell none) → (o5.data = .cell none) → (o6.data = .cell none) → (o7.data = .cell (some (.ref D))) → (IntsAre ys cs) → (cs.length = 8) → (@LT.lt Nat _ (L + 1 + 1 + 1 + 1 + 1 + 1 + 1) (D)) → (@LT.lt Nat _ (D) (S)) → (4 ≤ b) → (b ≤ 6) → (2 ≤ dk) → (dk ≤ b - 2) → (3 ≤ wd) → (wd ≤ 1602) → 
    (∀ (hp' : Heap) (tk' : Nat) (u' : Str → Option Value) (o1 o2 o3 o4 o5 o6 o7 : Obj) (S D cc : Addr) (n : Nat) (ys vs : List Value) (cs : List Int) (b dk wd : Int) (tb td tw : Tok), Fr h₀ L hp' (kstB u' [(Str.ofString "dark", .int dk td), (Str.ofString "width", .int wd tw)]) → News h₀ L hp' ([(S, W.listOf vs.toArray n), (D, LCg.lst ys), (L + 1 + 1 + 1 + 1 + 1 + 1 + 1, o7), (L + 1 + 1 + 1 + 1 + 1 + 1, o6), (L + 1 + 1 + 1 + 1 + 1, o5), (L + 1 + 1 + 1 + 1, o4), (L + 1 + 1 + 1, o3), (L + 1 + 1, o2), (L + 1, o1), (37, tabObj #[]), (30, tabObj #[]), (234, tabObj #[rawInt 201, rawInt 41, .ref cc])]) →
      (o2.data = .cell (some (.int b tb))) → (o3.data = .cell (some (.ref S))) → (o4.data = .cell none) → (o5.data = .cell none) → (o6.data = .cell none) → (o7.data = .cell (some (.ref D))) → (IntsAre ys cs) → (cs.length = 8) → (@LT.lt Nat _ (L + 1 + 1 + 1 + 1 + 1 + 1 + 1) (D)) → (@LT.lt Nat _ (D) (S)) → (4 ≤ b) → (b ≤ 6) → (2 ≤ dk) → (dk ≤ b - 2) → (3 ≤ wd) → (wd ≤ 1602) → (IntsAre vs (spotsL (fun e => List.getD cs (Int.toNat (2 + e)) 0) b.toNat)) →  LawRun w L fa rest Q E { heap := hp', gens := gs, drawn := dr, toks := tk', os := os0 }) →
    LawRun w L fa (hdS (List.tail (List.tail (List.tail (List.tail (List.tail (lawBody w)))))) :: rest) Q E { heap := hp, gens := gs, drawn := dr, toks := tk0, os := os0 }
def P7 (w : World) (p : Program) (loose : List Str) (mean : ExcName → Option Value) (mg : Str → Option Value) (mb : Str → Option Value) (fa : Addr) (h₀ : Heap) (L : Addr) (hp : Heap) (gs : Array GenState) (dr : Drawn) (tk0 : Nat) (os0 : OsState) (Q : Flow → Shared → Prop) (E : Value → Shared → Prop) (rest : List Stmt) (u : Str → Option Value) (o1 : Obj) (o2 : Obj) (o3 : Obj) (o4 : Obj) (o5 : Obj) (o6 : Obj) (o7 : Obj) (S : Addr) (D : Addr) (cc : Addr) (cd : Addr) (n : Nat) (ys : List Value) (vs : List Value) (cs : List Int) (b : Int) (dk : Int) (wd : Int) (tb : Tok) (td : Tok) (tw : Tok) : Prop :=
    Below callerA h₀ [] h₀ → (hd.heap_39 w.params).In h₀ → Top p loose mean mg mb h₀ → CodeHd h₀ 41 37 → CodeHd h₀ 34 30 → CodeHd h₀ 236 234 → LawOwn w L fa E → @LT.lt Nat _ 37 L → @LT.lt Nat _ 30 L → @LT.lt Nat _ 234 L →
    Fr h₀ L hp (kstB u [(Str.ofString "dark", .int dk td), (Str.ofString "width", .int wd tw)]) → News h₀ L hp ([(S, W.listOf vs.toArray n), (D, LCg.lst ys), (L + 1 + 1 + 1 + 1 + 1 + 1 + 1, o7), (L + 1 + 1 + 1 + 1 + 1 + 1, o6), (L + 1 + 1 + 1 + 1 + 1, o5), (L + 1 + 1 + 1 + 1, o4), (L + 1 + 1 + 1, o3), (L + 1 + 1, o2), (L + 1, o1), (37, tabObj #[]), (30, tabObj #[]), (234, tabObj #[rawInt 201, rawInt 41, .ref cc, rawInt 203, rawInt 41, .ref cd])]) →
    (o2.data = .cell (some (.int b tb))) → (o3.data = .cell (some (.ref S))) → (o4.data = .cell none) → (o5.data = .cell none) → (o6.data = .cell none) → (o7.data = .cell (some (.ref D))) → (IntsAre ys cs) → (cs.length = 8) → (@LT.lt Nat _ (L + 1 + 1 + 1 + 1 + 1 + 1 + 1) (D)) → (@LT.lt Nat _ (D) (S)) → (4 ≤ b) → (b ≤ 6) → (2 ≤ dk) → (dk ≤ b - 2) → (3 ≤ wd) → (wd ≤ 1602) → (IntsAre vs (spotsL (fun e => List.getD cs (Int.toNat (2 + e)) 0) b.toNat)) → 
    (∀ (hp' : Heap) (tk' : Nat) (u' : Str → Option Value) (o1 o2 o3 o4 o5 o6 o7 : Obj) (NM cc cd : Addr) (nk : Nat) (nvs : List Value) (nums : List Int) (b dk wd : Int) (tb td tw : Tok), Fr h₀ L hp' (kstB u' [(Str.ofString "dark", .int dk td), (Str.ofString "width", .int wd tw)]) → News h₀ L hp' ([(NM, W.listOf nvs.toArray nk), (L + 1 + 1 + 1 + 1 + 1 + 1 + 1, o7), (L + 1 + 1 + 1 + 1 + 1 + 1, o6), (L + 1 + 1 + 1 + 1 + 1, o5), (L + 1 + 1 + 1 + 1, o4), (L + 1 + 1 + 1, o3), (L + 1 + 1, o2), (L + 1, o1), (37, tabObj #[]), (30, tabObj #[]), (234, tabObj #[rawInt 201, rawInt 41, .ref cc, rawInt 203, rawInt 41, .ref cd])]) →
      (o2.data = .cell (some (.int b tb))) → (o5.data = .cell none) → (o6.data = .cell none) → (4 ≤ b) → (b ≤ 6) → (2 ≤ dk) → (dk ≤ b - 2) → (3 ≤ wd) → (wd ≤ 1602) → (o4.data = .cell (some (.ref NM))) → (@LT.lt Nat _ (L + 1 + 1 + 1 + 1 + 1 + 1 + 1) (NM)) → (IntsAre nvs nums) → (NumsOk b nums) →  LawRun w L fa rest Q E { heap := hp', gens := gs, drawn := dr, toks := tk', os := os0 }) →
    LawRun w L fa (hdS (List.tail (List.tail (List.tail (List.tail (List.tail (List.tail (List.tail (lawBody w)))))))) :: rest) Q E { heap := hp, gens := gs, drawn := dr, toks := tk0, os := os0 }
def P10 (w : World) (p : Program) (loose : List Str) (mean : ExcName → Option Value) (mg : Str → Option Value) (mb : Str → Option Value) (fa : Addr) (h₀ : Heap) (L : Addr) (hp : Heap) (gs : Array GenState) (dr : Drawn) (tk0 : Nat) (os0 : OsState) (Q : Flow → Shared → Prop) (E : Value → Shared → Prop) (rest : List Stmt) (u : Str → Option Value) (o1 : Obj) (o2 : Obj) (o3 : Obj) (o4 : Obj) (o5 : Obj) (o6 : Obj) (o7 : Obj) (NM : Addr) (cc : Addr) (cd : Addr) (nk : Nat) (nvs : List Value) (nums : List Int) (b : Int) (dk : Int) (wd : Int) (tb : Tok) (td : Tok) (tw : Tok) : Prop :=
    Below callerA h₀ [] h₀ → (hd.heap_39 w.params).In h₀ → Top p loose mean mg mb h₀ → CodeHd h₀ 41 37 → CodeHd h₀ 34 30 → CodeHd h₀ 236 234 → LawOwn w L fa E → @LT.lt Nat _ 37 L → @LT.lt Nat _ 30 L → @LT.lt Nat _ 234 L →
    Fr h₀ L hp (kstB u [(Str.ofString "dark", .int dk td), (Str.ofString "width", .int wd tw)]) → News h₀ L hp ([(NM, W.listOf nvs.toArray nk), (L + 1 + 1 + 1 + 1 + 1 + 1 + 1, o7), (L + 1 + 1 + 1 + 1 + 1 + 1, o6), (L + 1 + 1 + 1 + 1 + 1, o5), (L + 1 + 1 + 1 + 1, o4), (L + 1 + 1 + 1, o3), (L + 1 + 1, o2), (L + 1, o1), (37, tabObj #[]), (30, tabObj #[]), (234, tabObj #[rawInt 201, rawInt 41, .ref cc, rawInt 203, rawInt 41, .ref cd])]) →
    (o2.data = .cell (some (.int b tb))) → (o5.data = .cell none) → (o6.data = .cell none) → (4 ≤ b) → (b ≤ 6) → (2 ≤ dk) → (dk ≤ b - 2) → (3 ≤ wd) → (wd ≤ 1602) → (o4.data = .cell (some (.ref NM))) → (@LT.lt Nat _ (L + 1 + 1 + 1 + 1 + 1 + 1 + 1) (NM)) → (IntsAre nvs nums) → (NumsOk b nums) → 
    (∀ (hp' : Heap) (tk' : Nat) (u' : Str → Option Value) (o1 o2 o3 o4 o5 o6 o7 : Obj) (K RS cc cd : Addr) (nk nr : Nat) (kvs rvs : List Value) (prs : List (Addr × Obj)) (nums : List Int) (b dk wd : Int) (tb td tw : Tok), Fr h₀ L hp' (kstB u' [(Str.ofString "dark", .int dk td), (Str.ofString "width", .int wd tw), (Str.ofString "kinds", .ref K), (Str.ofString "rests", .ref RS)]) → News h₀ L hp' ((K, W.listOf kvs.toArray nk) :: (RS, W.listOf rvs.toArray nr) :: (L + 1 + 1 + 1 + 1 + 1 + 1 + 1, o7) :: (L + 1 + 1 + 1 + 1 + 1 + 1, o6) :: (L + 1 + 1 + 1 + 1 + 1, o5) :: (L + 1 + 1 + 1 + 1, o4) :: (L + 1 + 1 + 1, o3) :: (L + 1 + 1, o2) :: (L + 1, o1) :: (37, tabObj #[]) :: (30, tabObj #[]) :: (234, tabObj #[rawInt 201, rawInt 41, .ref cc, rawInt 203, rawInt 41, .ref cd]) :: prs) →
      (o2.data = .cell (some (.int b tb))) → (o6.data = .cell none) → (4 ≤ b) → (b ≤ 6) → (2 ≤ dk) → (dk ≤ b - 2) → (3 ≤ wd) → (wd ≤ 1602) → (@LT.lt Nat _ (L + 1 + 1 + 1 + 1 + 1 + 1 + 1) (K)) → (@LT.lt Nat _ (K) (RS)) → (∀ q ∈ prs, @LT.lt Nat _ (RS) (q.1)) → (NumsOk b nums) → (PairsAre prs (fun _ => True) kvs (kindsOf b (ringsOf b dk))) → (PairsAre prs (fun u => @LT.lt Nat _ 0 u ∧ @LT.lt Nat _ u tk') rvs (restsOf b dk nums (ringsOf b dk))) →  LawRun w L fa rest Q E { heap := hp', gens := gs, drawn := dr, toks := tk', os := os0 }) →
    LawRun w L fa (hdS (List.tail (List.tail (List.tail (List.tail (List.tail (List.tail (List.tail (List.tail (lawBody w))))))))) :: hdS (List.tail (List.tail (List.tail (List.tail (List.tail (List.tail (List.tail (List.tail (List.tail (lawBody w)))))))))) :: hdS (List.tail (List.tail (List.tail (List.tail (List.tail (List.tail (List.tail (List.tail (List.tail (List.tail (lawBody w))))))))))) :: rest) Q E { heap := hp, gens := gs, drawn := dr, toks := tk0, os := os0 }
def P11 (w : World) (p : Program) (loose : List Str) (mean : ExcName → Option Value) (mg : Str → Option Value) (mb : Str → Option Value) (fa : Addr) (h₀ : Heap) (L : Addr) (hp : Heap) (gs : Array GenState) (dr : Drawn) (tk0 : Nat) (os0 : OsState) (Q : Flow → Shared → Prop) (E : Value → Shared → Prop) (rest : List Stmt) (u : Str → Option Value) (o1 : Obj) (o2 : Obj) (o3 : Obj) (o4 : Obj) (o5 : Obj) (o6 : Obj) (o7 : Obj) (K : Addr) (RS : Addr) (cc : Addr) (cd : Addr) (nk : Nat) (nr : Nat) (kvs : List Value) (rvs : List Value) (prs : List (Addr × Obj)) (nums : List Int) (b : Int) (dk : Int) (wd : Int) (tb : Tok) (td : Tok) (tw : Tok) : Prop :=
    Below callerA h₀ [] h₀ → (hd.heap_39 w.params).In h₀ → Top p loose mean mg mb h₀ → CodeHd h₀ 41 37 → CodeHd h₀ 34 30 → CodeHd h₀ 236 234 → LawOwn w L fa E → @LT.lt Nat _ 37 L → @LT.lt Nat _ 30 L → @LT.lt Nat _ 234 L →
    Fr h₀ L hp (kstB u [(Str.ofString "dark", .int dk td), (Str.ofString "width", .int wd tw), (Str.ofString "kinds", .ref K), (Str.ofString "rests", .ref RS)]) → News h₀ L hp ((K, W.listOf kvs.toArray nk) :: (RS, W.listOf rvs.toArray nr) :: (L + 1 + 1 + 1 + 1 + 1 + 1 + 1, o7) :: (L + 1 + 1 + 1 + 1 + 1 + 1, o6) :: (L + 1 + 1 + 1 + 1 + 1, o5) :: (L + 1 + 1 + 1 + 1, o4) :: (L + 1 + 1 + 1, o3) :: (L + 1 + 1, o2) :: (L + 1, o1) :: (37, tabObj #[]) :: (30, tabObj #[]) :: (234, tabObj #[rawInt 201, rawInt 41, .ref cc, rawInt 203, rawInt 41, .ref cd]) :: prs) →
    (o2.data = .cell (some (.int b tb))) → (o6.data = .cell none) → (4 ≤ b) → (b ≤ 6) → (2 ≤ dk) → (dk ≤ b - 2) → (3 ≤ wd) → (wd ≤ 1602) → (@LT.lt Nat _ (L + 1 + 1 + 1 + 1 + 1 + 1 + 1) (K)) → (@LT.lt Nat _ (K) (RS)) → (∀ q ∈ prs, @LT.lt Nat _ (RS) (q.1)) → (NumsOk b nums) → (PairsAre prs (fun _ => True) kvs (kindsOf b (ringsOf b dk))) → (PairsAre prs (fun u => @LT.lt Nat _ 0 u ∧ @LT.lt Nat _ u tk0) rvs (restsOf b dk nums (ringsOf b dk))) → 
    (∀ (hp' : Heap) (tk' : Nat) (u' : Str → Option Value) (o1 o2 o3 o4 o5 o6 o7 : Obj) (K RS cc cd ce : Addr) (nk nr : Nat) (kvs rvs : List Value) (prs : List (Addr × Obj)) (nums : List Int) (b dk wd : Int) (tb td tw : Tok), Fr h₀ L hp' (kstB u' [(Str.ofString "dark", .int dk td), (Str.ofString "width", .int wd tw), (Str.ofString "kinds", .ref K), (Str.ofString "rests", .ref RS)]) → News h₀ L hp' ((K, W.listOf kvs.toArray nk) :: (RS, W.listOf rvs.toArray nr) :: (L + 1 + 1 + 1 + 1 + 1 + 1 + 1, o7) :: (L + 1 + 1 + 1 + 1 + 1 + 1, o6) :: (L + 1 + 1 + 1 + 1 + 1, o5) :: (L + 1 + 1 + 1 + 1, o4) :: (L + 1 + 1 + 1, o3) :: (L + 1 + 1, o2) :: (L + 1, o1) :: (37, tabObj #[]) :: (30, tabObj #[]) :: (234, tabObj #[rawInt 201, rawInt 41, .ref cc, rawInt 203, rawInt 41, .ref cd, rawInt 214, rawInt 60, .ref ce]) :: prs) →
      (o2.data = .cell (some (.int b tb))) → (o6.data = .cell none) → (4 ≤ b) → (b ≤ 6) → (2 ≤ dk) → (dk ≤ b - 2) → (3 ≤ wd) → (wd ≤ 1602) → (@LT.lt Nat _ (L + 1 + 1 + 1 + 1 + 1 + 1 + 1) (K)) → (@LT.lt Nat _ (K) (RS)) → (∀ q ∈ prs, @LT.lt Nat _ (RS) (q.1)) → (NumsOk b nums) → (PairsAre prs (fun _ => True) kvs (kindsOf b (ringsOf b dk))) → (PairsAre prs (fun u => @LT.lt Nat _ 0 u ∧ @LT.lt Nat _ u tk') rvs (restsOf b dk nums (ringsOf b dk))) →  LawRun w L fa rest Q E { heap := hp', gens := gs, drawn := dr, toks := tk', os := os0 }) →
    LawRun w L fa (hdS (List.tail (List.tail (List.tail (List.tail (List.tail (List.tail (List.tail (List.tail (List.tail (List.tail (List.tail (lawBody w)))))))))))) :: rest) Q E { heap := hp, gens := gs, drawn := dr, toks := tk0, os := os0 }
def P12 (w : World) (p : Program) (loose : List Str) (mean : ExcName → Option Value) (mg : Str → Option Value) (mb : Str → Option Value) (fa : Addr) (h₀ : Heap) (L : Addr) (hp : Heap) (gs : Array GenState) (dr : Drawn) (tk0 : Nat) (os0 : OsState) (Q : Flow → Shared → Prop) (E : Value → Shared → Prop) (rest : List Stmt) (u : Str → Option Value) (o1 : Obj) (o2 : Obj) (o3 : Obj) (o4 : Obj) (o5 : Obj) (o6 : Obj) (o7 : Obj) (K : Addr) (RS : Addr) (cc : Addr) (cd : Addr) (ce : Addr) (nk : Nat) (nr : Nat) (kvs : List Value) (rvs : List Value) (prs : List (Addr × Obj)) (nums : List Int) (b : Int) (dk : Int) (wd : Int) (tb : Tok) (td : Tok) (tw : Tok) : Prop :=
    Below callerA h₀ [] h₀ → (hd.heap_39 w.params).In h₀ → Top p loose mean mg mb h₀ → CodeHd h₀ 41 37 → CodeHd h₀ 34 30 → CodeHd h₀ 236 234 → LawOwn w L fa E → @LT.lt Nat _ 37 L → @LT.lt Nat _ 30 L → @LT.lt Nat _ 234 L →
    Fr h₀ L hp (kstB u [(Str.ofString "dark", .int dk td), (Str.ofString "width", .int wd tw), (Str.ofString "kinds", .ref K), (Str.ofString "rests", .ref RS)]) → News h₀ L hp ((K, W.listOf kvs.toArray nk) :: (RS, W.listOf rvs.toArray nr) :: (L + 1 + 1 + 1 + 1 + 1 + 1 + 1, o7) :: (L + 1 + 1 + 1 + 1 + 1 + 1, o6) :: (L + 1 + 1 + 1 + 1 + 1, o5) :: (L + 1 + 1 + 1 + 1, o4) :: (L + 1 + 1 + 1, o3) :: (L + 1 + 1, o2) :: (L + 1, o1) :: (37, tabObj #[]) :: (30, tabObj #[]) :: (234, tabObj #[rawInt 201, rawInt 41, .ref cc, rawInt 203, rawInt 41, .ref cd, rawInt 214, rawInt 60, .ref ce]) :: prs) →
    (o2.data = .cell (some (.int b tb))) → (o6.data = .cell none) → (4 ≤ b) → (b ≤ 6) → (2 ≤ dk) → (dk ≤ b - 2) → (3 ≤ wd) → (wd ≤ 1602) → (@LT.lt Nat _ (L + 1 + 1 + 1 + 1 + 1 + 1 + 1) (K)) → (@LT.lt Nat _ (K) (RS)) → (∀ q ∈ prs, @LT.lt Nat _ (RS) (q.1)) → (NumsOk b nums) → (PairsAre prs (fun _ => True) kvs (kindsOf b (ringsOf b dk))) → (PairsAre prs (fun u => @LT.lt Nat _ 0 u ∧ @LT.lt Nat _ u tk0) rvs (restsOf b dk nums (ringsOf b dk))) → 
    (∀ (hp' : Heap) (tk' : Nat) (u' : Str → Option Value) (o1 o2 o3 o4 o5 o6 o7 : Obj) (K RS cc cd ce : Addr) (nk nr : Nat) (kvs rvs : List Value) (prs : List (Addr × Obj)) (nums : List Int) (b dk wd : Int) (tb td tw : Tok) (OR : Addr) (tp0 : Tok), Fr h₀ L hp' (kstB u' [(Str.ofString "dark", .int dk td), (Str.ofString "width", .int wd tw), (Str.ofString "kinds", .ref K), (Str.ofString "rests", .ref RS), (Str.ofString "orders", .ref OR), (Str.ofString "place", .int 0 tp0)]) → News h₀ L hp' ((OR, W.listOf #[] 0) :: (K, W.listOf kvs.toArray nk) :: (RS, W.listOf rvs.toArray nr) :: (L + 1 + 1 + 1 + 1 + 1 + 1 + 1, o7) :: (L + 1 + 1 + 1 + 1 + 1 + 1, o6) :: (L + 1 + 1 + 1 + 1 + 1, o5) :: (L + 1 + 1 + 1 + 1, o4) :: (L + 1 + 1 + 1, o3) :: (L + 1 + 1, o2) :: (L + 1, o1) :: (37, tabObj #[]) :: (30, tabObj #[]) :: (234, tabObj #[rawInt 201, rawInt 41, .ref cc, rawInt 203, rawInt 41, .ref cd, rawInt 214, rawInt 60, .ref ce]) :: prs) →
      (o2.data = .cell (some (.int b tb))) → (o6.data = .cell none) → (4 ≤ b) → (b ≤ 6) → (2 ≤ dk) → (dk ≤ b - 2) → (3 ≤ wd) → (wd ≤ 1602) → (@LT.lt Nat _ (L + 1 + 1 + 1 + 1 + 1 + 1 + 1) (K)) → (@LT.lt Nat _ (K) (RS)) → (∀ q ∈ prs, @LT.lt Nat _ (RS) (q.1)) → (NumsOk b nums) → (PairsAre prs (fun _ => True) kvs (kindsOf b (ringsOf b dk))) → (PairsAre prs (fun u => @LT.lt Nat _ 0 u ∧ @LT.lt Nat _ u tk') rvs (restsOf b dk nums (ringsOf b dk))) → (@LT.lt Nat _ (RS) (OR)) → (∀ q ∈ prs, @LT.lt Nat _ (q.1) (OR)) →  LawRun w L fa rest Q E { heap := hp', gens := gs, drawn := dr, toks := tk', os := os0 }) →
    LawRun w L fa (hdS (List.tail (List.tail (List.tail (List.tail (List.tail (List.tail (List.tail (List.tail (List.tail (List.tail (List.tail (List.tail (lawBody w))))))))))))) :: hdS (List.tail (List.tail (List.tail (List.tail (List.tail (List.tail (List.tail (List.tail (List.tail (List.tail (List.tail (List.tail (List.tail (lawBody w)))))))))))))) :: rest) Q E { heap := hp, gens := gs, drawn := dr, toks := tk0, os := os0 }
def P14 (w : World) (p : Program) (loose : List Str) (mean : ExcName → Option Value) (mg : Str → Option Value) (mb : Str → Option Value) (fa : Addr) (h₀ : Heap) (L : Addr) (hp : Heap) (gs : Array GenState) (dr : Drawn) (tk0 : Nat) (os0 : OsState) (Q : Flow → Shared → Prop) (E : Value → Shared → Prop) (rest : List Stmt) (u : Str → Option Value) (o1 : Obj) (o2 : Obj) (o3 : Obj) (o4 : Obj) (o5 : Obj) (o6 : Obj) (o7 : Obj) (K : Addr) (RS : Addr) (cc : Addr) (cd : Addr) (ce : Addr) (nk : Nat) (nr : Nat) (kvs : List Value) (rvs : List Value) (prs : List (Addr × Obj)) (nums : List Int) (b : Int) (dk : Int) (wd : Int) (tb : Tok) (td : Tok) (tw : Tok) (OR : Addr) (tp0 : Tok) : Prop :=
    importsNone p = true → Below callerA h₀ [] h₀ → (hd.heap_39 w.params).In h₀ → Top p loose mean mg mb h₀ → CodeHd h₀ 41 37 → CodeHd h₀ 34 30 → CodeHd h₀ 236 234 → LawOwn w L fa E → @LT.lt Nat _ 37 L → @LT.lt Nat _ 30 L → @LT.lt Nat _ 234 L →
    Fr h₀ L hp (kstB u [(Str.ofString "dark", .int dk td), (Str.ofString "width", .int wd tw), (Str.ofString "kinds", .ref K), (Str.ofString "rests", .ref RS), (Str.ofString "orders", .ref OR), (Str.ofString "place", .int 0 tp0)]) → News h₀ L hp ((OR, W.listOf #[] 0) :: (K, W.listOf kvs.toArray nk) :: (RS, W.listOf rvs.toArray nr) :: (L + 1 + 1 + 1 + 1 + 1 + 1 + 1, o7) :: (L + 1 + 1 + 1 + 1 + 1 + 1, o6) :: (L + 1 + 1 + 1 + 1 + 1, o5) :: (L + 1 + 1 + 1 + 1, o4) :: (L + 1 + 1 + 1, o3) :: (L + 1 + 1, o2) :: (L + 1, o1) :: (37, tabObj #[]) :: (30, tabObj #[]) :: (234, tabObj #[rawInt 201, rawInt 41, .ref cc, rawInt 203, rawInt 41, .ref cd, rawInt 214, rawInt 60, .ref ce]) :: prs) →
    (o2.data = .cell (some (.int b tb))) → (o6.data = .cell none) → (4 ≤ b) → (b ≤ 6) → (2 ≤ dk) → (dk ≤ b - 2) → (3 ≤ wd) → (wd ≤ 1602) → (@LT.lt Nat _ (L + 1 + 1 + 1 + 1 + 1 + 1 + 1) (K)) → (@LT.lt Nat _ (K) (RS)) → (∀ q ∈ prs, @LT.lt Nat _ (RS) (q.1)) → (NumsOk b nums) → (PairsAre prs (fun _ => True) kvs (kindsOf b (ringsOf b dk))) → (PairsAre prs (fun u => @LT.lt Nat _ 0 u ∧ @LT.lt Nat _ u tk0) rvs (restsOf b dk nums (ringsOf b dk))) → (@LT.lt Nat _ (RS) (OR)) → (∀ q ∈ prs, @LT.lt Nat _ (q.1) (OR)) → 
    (∀ (hp' : Heap) (tk' : Nat) (u' : Str → Option Value) (o1 o2 o3 o4 o5 o6 o7 : Obj) (K RS cc cd ce : Addr) (nk nr : Nat) (kvs rvs : List Value) (prs : List (Addr × Obj)) (nums : List Int) (b dk wd : Int) (tb td tw : Tok) (OR : Addr) (no : Nat) (ovs : List Value) (o3t o7t b3 b7 : Obj) (c3 c7 : Addr), Fr h₀ L hp' (kstB u' [(Str.ofString "dark", .int dk td), (Str.ofString "width", .int wd tw), (Str.ofString "rests", .ref RS), (Str.ofString "orders", .ref OR)]) → News h₀ L hp' ((OR, W.listOf ovs.toArray no) :: (30, o3t) :: (c3, b3) :: (37, o7t) :: (c7, b7) :: (K, W.listOf kvs.toArray nk) :: (RS, W.listOf rvs.toArray nr) :: (L + 1 + 1 + 1 + 1 + 1 + 1 + 1, o7) :: (L + 1 + 1 + 1 + 1 + 1 + 1, o6) :: (L + 1 + 1 + 1 + 1 + 1, o5) :: (L + 1 + 1 + 1 + 1, o4) :: (L + 1 + 1 + 1, o3) :: (L + 1 + 1, o2) :: (L + 1, o1) :: (234, tabObj #[rawInt 201, rawInt 41, .ref cc, rawInt 203, rawInt 41, .ref cd, rawInt 214, rawInt 60, .ref ce]) :: prs) →
      (o2.data = .cell (some (.int b tb))) → (o6.data = .cell none) → (4 ≤ b) → (b ≤ 6) → (2 ≤ dk) → (dk ≤ b - 2) → (3 ≤ wd) → (wd ≤ 1602) → (@LT.lt Nat _ (L + 1 + 1 + 1 + 1 + 1 + 1 + 1) (K)) → (@LT.lt Nat _ (K) (RS)) → (∀ q ∈ prs, @LT.lt Nat _ (RS) (q.1)) → (NumsOk b nums) → (PairsAre prs (fun _ => True) kvs (kindsOf b (ringsOf b dk))) → (PairsAre prs (fun u => @LT.lt Nat _ 0 u ∧ @LT.lt Nat _ u tk') rvs (restsOf b dk nums (ringsOf b dk))) → (@LT.lt Nat _ (RS) (OR)) → (∀ q ∈ prs, @LT.lt Nat _ (q.1) (OR)) → (IntsAre ovs (ordersOf b dk)) → (Tabs o3t (c3, b3) o7t (c7, b7) ((K, W.listOf kvs.toArray nk) :: (RS, W.listOf rvs.toArray nr) :: (L + 1 + 1 + 1 + 1 + 1 + 1 + 1, o7) :: (L + 1 + 1 + 1 + 1 + 1 + 1, o6) :: (L + 1 + 1 + 1 + 1 + 1, o5) :: (L + 1 + 1 + 1 + 1, o4) :: (L + 1 + 1 + 1, o3) :: (L + 1 + 1, o2) :: (L + 1, o1) :: (234, tabObj #[rawInt 201, rawInt 41, .ref cc, rawInt 203, rawInt 41, .ref cd, rawInt 214, rawInt 60, .ref ce]) :: prs)) → (∀ q ∈ ((K, W.listOf kvs.toArray nk) :: (RS, W.listOf rvs.toArray nr) :: (L + 1 + 1 + 1 + 1 + 1 + 1 + 1, o7) :: (L + 1 + 1 + 1 + 1 + 1 + 1, o6) :: (L + 1 + 1 + 1 + 1 + 1, o5) :: (L + 1 + 1 + 1 + 1, o4) :: (L + 1 + 1 + 1, o3) :: (L + 1 + 1, o2) :: (L + 1, o1) :: (234, tabObj #[rawInt 201, rawInt 41, .ref cc, rawInt 203, rawInt 41, .ref cd, rawInt 214, rawInt 60, .ref ce]) :: prs : List (Addr × Obj)), q.1 ≠ L + 1 → q.1 ≠ c3) → (∀ q ∈ ((K, W.listOf kvs.toArray nk) :: (RS, W.listOf rvs.toArray nr) :: (L + 1 + 1 + 1 + 1 + 1 + 1 + 1, o7) :: (L + 1 + 1 + 1 + 1 + 1 + 1, o6) :: (L + 1 + 1 + 1 + 1 + 1, o5) :: (L + 1 + 1 + 1 + 1, o4) :: (L + 1 + 1 + 1, o3) :: (L + 1 + 1, o2) :: (L + 1, o1) :: (234, tabObj #[rawInt 201, rawInt 41, .ref cc, rawInt 203, rawInt 41, .ref cd, rawInt 214, rawInt 60, .ref ce]) :: prs : List (Addr × Obj)), q.1 ≠ L + 1 → q.1 ≠ c7) → (@Ne Nat c3 OR) → (@Ne Nat c7 OR) →  LawRun w L fa rest Q E { heap := hp', gens := gs, drawn := dr, toks := tk', os := os0 }) →
    LawRun w L fa (hdS (List.tail (List.tail (List.tail (List.tail (List.tail (List.tail (List.tail (List.tail (List.tail (List.tail (List.tail (List.tail (List.tail (List.tail (lawBody w))))))))))))))) :: rest) Q E { heap := hp, gens := gs, drawn := dr, toks := tk0, os := os0 }
def P15 (w : World) (p : Program) (loose : List Str) (mean : ExcName → Option Value) (mg : Str → Option Value) (mb : Str → Option Value) (fa : Addr) (h₀ : Heap) (L : Addr) (hp : Heap) (gs : Array GenState) (dr : Drawn) (tk0 : Nat) (os0 : OsState) (Q : Flow → Shared → Prop) (E : Value → Shared → Prop) (rest : List Stmt) (u : Str → Option Value) (o1 : Obj) (o2 : Obj) (o3 : Obj) (o4 : Obj) (o5 : Obj) (o6 : Obj) (o7 : Obj) (K : Addr) (RS : Addr) (cc : Addr) (cd : Addr) (ce : Addr) (nk : Nat) (nr : Nat) (kvs : List Value) (rvs : List Value) (prs : List (Addr × Obj)) (nums : List Int) (b : Int) (dk : Int) (wd : Int) (tb : Tok) (td : Tok) (tw : Tok) (OR : Addr) (no : Nat) (ovs : List Value) (o3t : Obj) (o7t : Obj) (b3 : Obj) (b7 : Obj) (c3 : Addr) (c7 : Addr) (Wy : Nat → Int) (tn : Int) (ov : Int) (dg : List Int) : Prop :=
    importsNone p = true → Below callerA h₀ [] h₀ → (hd.heap_39 w.params).In h₀ → Top p loose mean mg mb h₀ → CodeHd h₀ 41 37 → CodeHd h₀ 34 30 → CodeHd h₀ 236 234 → LawOwn w L fa E → @LT.lt Nat _ 37 L → @LT.lt Nat _ 30 L → @LT.lt Nat _ 234 L →
    Fr h₀ L hp (kstB u [(Str.ofString "dark", .int dk td), (Str.ofString "width", .int wd tw), (Str.ofString "rests", .ref RS), (Str.ofString "orders", .ref OR)]) → News h₀ L hp ((OR, W.listOf ovs.toArray no) :: (30, o3t) :: (c3, b3) :: (37, o7t) :: (c7, b7) :: (K, W.listOf kvs.toArray nk) :: (RS, W.listOf rvs.toArray nr) :: (L + 1 + 1 + 1 + 1 + 1 + 1 + 1, o7) :: (L + 1 + 1 + 1 + 1 + 1 + 1, o6) :: (L + 1 + 1 + 1 + 1 + 1, o5) :: (L + 1 + 1 + 1 + 1, o4) :: (L + 1 + 1 + 1, o3) :: (L + 1 + 1, o2) :: (L + 1, o1) :: (234, tabObj #[rawInt 201, rawInt 41, .ref cc, rawInt 203, rawInt 41, .ref cd, rawInt 214, rawInt 60, .ref ce]) :: prs) →
    (o2.data = .cell (some (.int b tb))) → (o6.data = .cell none) → (4 ≤ b) → (b ≤ 6) → (2 ≤ dk) → (dk ≤ b - 2) → (3 ≤ wd) → (wd ≤ 1602) → (@LT.lt Nat _ (L + 1 + 1 + 1 + 1 + 1 + 1 + 1) (K)) → (@LT.lt Nat _ (K) (RS)) → (∀ q ∈ prs, @LT.lt Nat _ (RS) (q.1)) → (NumsOk b nums) → (PairsAre prs (fun _ => True) kvs (kindsOf b (ringsOf b dk))) → (PairsAre prs (fun u => @LT.lt Nat _ 0 u ∧ @LT.lt Nat _ u tk0) rvs (restsOf b dk nums (ringsOf b dk))) → (@LT.lt Nat _ (RS) (OR)) → (∀ q ∈ prs, @LT.lt Nat _ (q.1) (OR)) → (IntsAre ovs (ordersOf b dk)) → (Tabs o3t (c3, b3) o7t (c7, b7) ((K, W.listOf kvs.toArray nk) :: (RS, W.listOf rvs.toArray nr) :: (L + 1 + 1 + 1 + 1 + 1 + 1 + 1, o7) :: (L + 1 + 1 + 1 + 1 + 1 + 1, o6) :: (L + 1 + 1 + 1 + 1 + 1, o5) :: (L + 1 + 1 + 1 + 1, o4) :: (L + 1 + 1 + 1, o3) :: (L + 1 + 1, o2) :: (L + 1, o1) :: (234, tabObj #[rawInt 201, rawInt 41, .ref cc, rawInt 203, rawInt 41, .ref cd, rawInt 214, rawInt 60, .ref ce]) :: prs)) → (∀ q ∈ ((K, W.listOf kvs.toArray nk) :: (RS, W.listOf rvs.toArray nr) :: (L + 1 + 1 + 1 + 1 + 1 + 1 + 1, o7) :: (L + 1 + 1 + 1 + 1 + 1 + 1, o6) :: (L + 1 + 1 + 1 + 1 + 1, o5) :: (L + 1 + 1 + 1 + 1, o4) :: (L + 1 + 1 + 1, o3) :: (L + 1 + 1, o2) :: (L + 1, o1) :: (234, tabObj #[rawInt 201, rawInt 41, .ref cc, rawInt 203, rawInt 41, .ref cd, rawInt 214, rawInt 60, .ref ce]) :: prs : List (Addr × Obj)), q.1 ≠ L + 1 → q.1 ≠ c3) → (∀ q ∈ ((K, W.listOf kvs.toArray nk) :: (RS, W.listOf rvs.toArray nr) :: (L + 1 + 1 + 1 + 1 + 1 + 1 + 1, o7) :: (L + 1 + 1 + 1 + 1 + 1 + 1, o6) :: (L + 1 + 1 + 1 + 1 + 1, o5) :: (L + 1 + 1 + 1 + 1, o4) :: (L + 1 + 1 + 1, o3) :: (L + 1 + 1, o2) :: (L + 1, o1) :: (234, tabObj #[rawInt 201, rawInt 41, .ref cc, rawInt 203, rawInt 41, .ref cd, rawInt 214, rawInt 60, .ref ce]) :: prs : List (Addr × Obj)), q.1 ≠ L + 1 → q.1 ≠ c7) → (@Ne Nat c3 OR) → (@Ne Nat c7 OR) → (GaussOk b dk wd Wy tn ov dg) → 
    (∀ (hp' : Heap) (tk' : Nat) (u' : Str → Option Value) (o1 o2 o3 o4 o5 o6 o7 : Obj) (K RS cc cd ce : Addr) (nk nr : Nat) (kvs rvs : List Value) (prs : List (Addr × Obj)) (nums : List Int) (b dk wd : Int) (tb td tw : Tok) (OR : Addr) (no : Nat) (ovs : List Value) (o3t o7t b3 b7 : Obj) (c3 c7 : Addr) (Wy : Nat → Int) (tn ov : Int) (dg : List Int) (twy : Tok), Fr h₀ L hp' (kstB u' [(Str.ofString "dark", .int dk td), (Str.ofString "width", .int wd tw), (Str.ofString "rests", .ref RS), (Str.ofString "orders", .ref OR), (Str.ofString "ways", .int (Wy dk.toNat) twy)]) → News h₀ L hp' ((OR, W.listOf ovs.toArray no) :: (30, o3t) :: (c3, b3) :: (37, o7t) :: (c7, b7) :: (K, W.listOf kvs.toArray nk) :: (RS, W.listOf rvs.toArray nr) :: (L + 1 + 1 + 1 + 1 + 1 + 1 + 1, o7) :: (L + 1 + 1 + 1 + 1 + 1 + 1, o6) :: (L + 1 + 1 + 1 + 1 + 1, o5) :: (L + 1 + 1 + 1 + 1, o4) :: (L + 1 + 1 + 1, o3) :: (L + 1 + 1, o2) :: (L + 1, o1) :: (234, tabObj #[rawInt 201, rawInt 41, .ref cc, rawInt 203, rawInt 41, .ref cd, rawInt 214, rawInt 60, .ref ce]) :: prs) →
      (o2.data = .cell (some (.int b tb))) → (o6.data = .cell none) → (4 ≤ b) → (b ≤ 6) → (2 ≤ dk) → (dk ≤ b - 2) → (3 ≤ wd) → (wd ≤ 1602) → (@LT.lt Nat _ (L + 1 + 1 + 1 + 1 + 1 + 1 + 1) (K)) → (@LT.lt Nat _ (K) (RS)) → (∀ q ∈ prs, @LT.lt Nat _ (RS) (q.1)) → (NumsOk b nums) → (PairsAre prs (fun _ => True) kvs (kindsOf b (ringsOf b dk))) → (PairsAre prs (fun u => @LT.lt Nat _ 0 u ∧ @LT.lt Nat _ u tk') rvs (restsOf b dk nums (ringsOf b dk))) → (@LT.lt Nat _ (RS) (OR)) → (∀ q ∈ prs, @LT.lt Nat _ (q.1) (OR)) → (IntsAre ovs (ordersOf b dk)) → (Tabs o3t (c3, b3) o7t (c7, b7) ((K, W.listOf kvs.toArray nk) :: (RS, W.listOf rvs.toArray nr) :: (L + 1 + 1 + 1 + 1 + 1 + 1 + 1, o7) :: (L + 1 + 1 + 1 + 1 + 1 + 1, o6) :: (L + 1 + 1 + 1 + 1 + 1, o5) :: (L + 1 + 1 + 1 + 1, o4) :: (L + 1 + 1 + 1, o3) :: (L + 1 + 1, o2) :: (L + 1, o1) :: (234, tabObj #[rawInt 201, rawInt 41, .ref cc, rawInt 203, rawInt 41, .ref cd, rawInt 214, rawInt 60, .ref ce]) :: prs)) → (∀ q ∈ ((K, W.listOf kvs.toArray nk) :: (RS, W.listOf rvs.toArray nr) :: (L + 1 + 1 + 1 + 1 + 1 + 1 + 1, o7) :: (L + 1 + 1 + 1 + 1 + 1 + 1, o6) :: (L + 1 + 1 + 1 + 1 + 1, o5) :: (L + 1 + 1 + 1 + 1, o4) :: (L + 1 + 1 + 1, o3) :: (L + 1 + 1, o2) :: (L + 1, o1) :: (234, tabObj #[rawInt 201, rawInt 41, .ref cc, rawInt 203, rawInt 41, .ref cd, rawInt 214, rawInt 60, .ref ce]) :: prs : List (Addr × Obj)), q.1 ≠ L + 1 → q.1 ≠ c3) → (∀ q ∈ ((K, W.listOf kvs.toArray nk) :: (RS, W.listOf rvs.toArray nr) :: (L + 1 + 1 + 1 + 1 + 1 + 1 + 1, o7) :: (L + 1 + 1 + 1 + 1 + 1 + 1, o6) :: (L + 1 + 1 + 1 + 1 + 1, o5) :: (L + 1 + 1 + 1 + 1, o4) :: (L + 1 + 1 + 1, o3) :: (L + 1 + 1, o2) :: (L + 1, o1) :: (234, tabObj #[rawInt 201, rawInt 41, .ref cc, rawInt 203, rawInt 41, .ref cd, rawInt 214, rawInt 60, .ref ce]) :: prs : List (Addr × Obj)), q.1 ≠ L + 1 → q.1 ≠ c7) → (@Ne Nat c3 OR) → (@Ne Nat c7 OR) → (GaussOk b dk wd Wy tn ov dg) →  LawRun w L fa rest Q E { heap := hp', gens := gs, drawn := dr, toks := tk', os := os0 }) →
    LawRun w L fa (hdS (List.tail (List.tail (List.tail (List.tail (List.tail (List.tail (List.tail (List.tail (List.tail (List.tail (List.tail (List.tail (List.tail (List.tail (List.tail (lawBody w)))))))))))))))) :: hdS (List.tail (List.tail (List.tail (List.tail (List.tail (List.tail (List.tail (List.tail (List.tail (List.tail (List.tail (List.tail (List.tail (List.tail (List.tail (List.tail (lawBody w))))))))))))))))) :: rest) Q E { heap := hp, gens := gs, drawn := dr, toks := tk0, os := os0 }
def P17 (w : World) (p : Program) (loose : List Str) (mean : ExcName → Option Value) (mg : Str → Option Value) (mb : Str → Option Value) (fa : Addr) (h₀ : Heap) (L : Addr) (hp : Heap) (gs : Array GenState) (dr : Drawn) (tk0 : Nat) (os0 : OsState) (Q : Flow → Shared → Prop) (E : Value → Shared → Prop) (rest : List Stmt) (u : Str → Option Value) (o1 : Obj) (o2 : Obj) (o3 : Obj) (o4 : Obj) (o5 : Obj) (o6 : Obj) (o7 : Obj) (K : Addr) (RS : Addr) (cc : Addr) (cd : Addr) (ce : Addr) (nk : Nat) (nr : Nat) (kvs : List Value) (rvs : List Value) (prs : List (Addr × Obj)) (nums : List Int) (b : Int) (dk : Int) (wd : Int) (tb : Tok) (td : Tok) (tw : Tok) (OR : Addr) (no : Nat) (ovs : List Value) (o3t : Obj) (o7t : Obj) (b3 : Obj) (b7 : Obj) (c3 : Addr) (c7 : Addr) (Wy : Nat → Int) (tn : Int) (ov : Int) (dg : List Int) (twy : Tok) : Prop :=
    importsNone p = true → Below callerA h₀ [] h₀ → (hd.heap_39 w.params).In h₀ → Top p loose mean mg mb h₀ → CodeHd h₀ 41 37 → CodeHd h₀ 34 30 → CodeHd h₀ 236 234 → LawOwn w L fa E → @LT.lt Nat _ 37 L → @LT.lt Nat _ 30 L → @LT.lt Nat _ 234 L →
    Fr h₀ L hp (kstB u [(Str.ofString "dark", .int dk td), (Str.ofString "width", .int wd tw), (Str.ofString "rests", .ref RS), (Str.ofString "orders", .ref OR), (Str.ofString "ways", .int (Wy dk.toNat) twy)]) → News h₀ L hp ((OR, W.listOf ovs.toArray no) :: (30, o3t) :: (c3, b3) :: (37, o7t) :: (c7, b7) :: (K, W.listOf kvs.toArray nk) :: (RS, W.listOf rvs.toArray nr) :: (L + 1 + 1 + 1 + 1 + 1 + 1 + 1, o7) :: (L + 1 + 1 + 1 + 1 + 1 + 1, o6) :: (L + 1 + 1 + 1 + 1 + 1, o5) :: (L + 1 + 1 + 1 + 1, o4) :: (L + 1 + 1 + 1, o3) :: (L + 1 + 1, o2) :: (L + 1, o1) :: (234, tabObj #[rawInt 201, rawInt 41, .ref cc, rawInt 203, rawInt 41, .ref cd, rawInt 214, rawInt 60, .ref ce]) :: prs) →
    (o2.data = .cell (some (.int b tb))) → (o6.data = .cell none) → (4 ≤ b) → (b ≤ 6) → (2 ≤ dk) → (dk ≤ b - 2) → (3 ≤ wd) → (wd ≤ 1602) → (@LT.lt Nat _ (L + 1 + 1 + 1 + 1 + 1 + 1 + 1) (K)) → (@LT.lt Nat _ (K) (RS)) → (∀ q ∈ prs, @LT.lt Nat _ (RS) (q.1)) → (NumsOk b nums) → (PairsAre prs (fun _ => True) kvs (kindsOf b (ringsOf b dk))) → (PairsAre prs (fun u => @LT.lt Nat _ 0 u ∧ @LT.lt Nat _ u tk0) rvs (restsOf b dk nums (ringsOf b dk))) → (@LT.lt Nat _ (RS) (OR)) → (∀ q ∈ prs, @LT.lt Nat _ (q.1) (OR)) → (IntsAre ovs (ordersOf b dk)) → (Tabs o3t (c3, b3) o7t (c7, b7) ((K, W.listOf kvs.toArray nk) :: (RS, W.listOf rvs.toArray nr) :: (L + 1 + 1 + 1 + 1 + 1 + 1 + 1, o7) :: (L + 1 + 1 + 1 + 1 + 1 + 1, o6) :: (L + 1 + 1 + 1 + 1 + 1, o5) :: (L + 1 + 1 + 1 + 1, o4) :: (L + 1 + 1 + 1, o3) :: (L + 1 + 1, o2) :: (L + 1, o1) :: (234, tabObj #[rawInt 201, rawInt 41, .ref cc, rawInt 203, rawInt 41, .ref cd, rawInt 214, rawInt 60, .ref ce]) :: prs)) → (∀ q ∈ ((K, W.listOf kvs.toArray nk) :: (RS, W.listOf rvs.toArray nr) :: (L + 1 + 1 + 1 + 1 + 1 + 1 + 1, o7) :: (L + 1 + 1 + 1 + 1 + 1 + 1, o6) :: (L + 1 + 1 + 1 + 1 + 1, o5) :: (L + 1 + 1 + 1 + 1, o4) :: (L + 1 + 1 + 1, o3) :: (L + 1 + 1, o2) :: (L + 1, o1) :: (234, tabObj #[rawInt 201, rawInt 41, .ref cc, rawInt 203, rawInt 41, .ref cd, rawInt 214, rawInt 60, .ref ce]) :: prs : List (Addr × Obj)), q.1 ≠ L + 1 → q.1 ≠ c3) → (∀ q ∈ ((K, W.listOf kvs.toArray nk) :: (RS, W.listOf rvs.toArray nr) :: (L + 1 + 1 + 1 + 1 + 1 + 1 + 1, o7) :: (L + 1 + 1 + 1 + 1 + 1 + 1, o6) :: (L + 1 + 1 + 1 + 1 + 1, o5) :: (L + 1 + 1 + 1 + 1, o4) :: (L + 1 + 1 + 1, o3) :: (L + 1 + 1, o2) :: (L + 1, o1) :: (234, tabObj #[rawInt 201, rawInt 41, .ref cc, rawInt 203, rawInt 41, .ref cd, rawInt 214, rawInt 60, .ref ce]) :: prs : List (Addr × Obj)), q.1 ≠ L + 1 → q.1 ≠ c7) → (@Ne Nat c3 OR) → (@Ne Nat c7 OR) → (GaussOk b dk wd Wy tn ov dg) → 
    (∀ (hp' : Heap) (tk' : Nat) (u' : Str → Option Value) (o1 o2 o3 o4 o5 o6 o7 : Obj) (K RS cc cd ce : Addr) (nk nr : Nat) (kvs rvs : List Value) (prs : List (Addr × Obj)) (nums : List Int) (b dk wd : Int) (tb td tw : Tok) (OR : Addr) (no : Nat) (ovs : List Value) (o3t o7t b3 b7 : Obj) (c3 c7 : Addr) (Wy : Nat → Int) (tn ov : Int) (dg : List Int) (twy : Tok) (tpy ttn tov : Tok), Fr h₀ L hp' (kstB u' [(Str.ofString "dark", .int dk td), (Str.ofString "width", .int wd tw), (Str.ofString "rests", .ref RS), (Str.ofString "orders", .ref OR), (Str.ofString "ways", .int (Wy dk.toNat) twy), (Str.ofString "power", .int (pw wd b) tpy), (Str.ofString "turns", .int tn ttn), (Str.ofString "over", .int ov tov)]) → News h₀ L hp' ((OR, W.listOf ovs.toArray no) :: (30, o3t) :: (c3, b3) :: (37, o7t) :: (c7, b7) :: (K, W.listOf kvs.toArray nk) :: (RS, W.listOf rvs.toArray nr) :: (L + 1 + 1 + 1 + 1 + 1 + 1 + 1, o7) :: (L + 1 + 1 + 1 + 1 + 1 + 1, o6) :: (L + 1 + 1 + 1 + 1 + 1, o5) :: (L + 1 + 1 + 1 + 1, o4) :: (L + 1 + 1 + 1, o3) :: (L + 1 + 1, o2) :: (L + 1, o1) :: (234, tabObj #[rawInt 201, rawInt 41, .ref cc, rawInt 203, rawInt 41, .ref cd, rawInt 214, rawInt 60, .ref ce]) :: prs) →
      (o2.data = .cell (some (.int b tb))) → (o6.data = .cell none) → (4 ≤ b) → (b ≤ 6) → (2 ≤ dk) → (dk ≤ b - 2) → (3 ≤ wd) → (wd ≤ 1602) → (@LT.lt Nat _ (L + 1 + 1 + 1 + 1 + 1 + 1 + 1) (K)) → (@LT.lt Nat _ (K) (RS)) → (∀ q ∈ prs, @LT.lt Nat _ (RS) (q.1)) → (NumsOk b nums) → (PairsAre prs (fun _ => True) kvs (kindsOf b (ringsOf b dk))) → (PairsAre prs (fun u => @LT.lt Nat _ 0 u ∧ @LT.lt Nat _ u tk') rvs (restsOf b dk nums (ringsOf b dk))) → (@LT.lt Nat _ (RS) (OR)) → (∀ q ∈ prs, @LT.lt Nat _ (q.1) (OR)) → (IntsAre ovs (ordersOf b dk)) → (Tabs o3t (c3, b3) o7t (c7, b7) ((K, W.listOf kvs.toArray nk) :: (RS, W.listOf rvs.toArray nr) :: (L + 1 + 1 + 1 + 1 + 1 + 1 + 1, o7) :: (L + 1 + 1 + 1 + 1 + 1 + 1, o6) :: (L + 1 + 1 + 1 + 1 + 1, o5) :: (L + 1 + 1 + 1 + 1, o4) :: (L + 1 + 1 + 1, o3) :: (L + 1 + 1, o2) :: (L + 1, o1) :: (234, tabObj #[rawInt 201, rawInt 41, .ref cc, rawInt 203, rawInt 41, .ref cd, rawInt 214, rawInt 60, .ref ce]) :: prs)) → (∀ q ∈ ((K, W.listOf kvs.toArray nk) :: (RS, W.listOf rvs.toArray nr) :: (L + 1 + 1 + 1 + 1 + 1 + 1 + 1, o7) :: (L + 1 + 1 + 1 + 1 + 1 + 1, o6) :: (L + 1 + 1 + 1 + 1 + 1, o5) :: (L + 1 + 1 + 1 + 1, o4) :: (L + 1 + 1 + 1, o3) :: (L + 1 + 1, o2) :: (L + 1, o1) :: (234, tabObj #[rawInt 201, rawInt 41, .ref cc, rawInt 203, rawInt 41, .ref cd, rawInt 214, rawInt 60, .ref ce]) :: prs : List (Addr × Obj)), q.1 ≠ L + 1 → q.1 ≠ c3) → (∀ q ∈ ((K, W.listOf kvs.toArray nk) :: (RS, W.listOf rvs.toArray nr) :: (L + 1 + 1 + 1 + 1 + 1 + 1 + 1, o7) :: (L + 1 + 1 + 1 + 1 + 1 + 1, o6) :: (L + 1 + 1 + 1 + 1 + 1, o5) :: (L + 1 + 1 + 1 + 1, o4) :: (L + 1 + 1 + 1, o3) :: (L + 1 + 1, o2) :: (L + 1, o1) :: (234, tabObj #[rawInt 201, rawInt 41, .ref cc, rawInt 203, rawInt 41, .ref cd, rawInt 214, rawInt 60, .ref ce]) :: prs : List (Addr × Obj)), q.1 ≠ L + 1 → q.1 ≠ c7) → (@Ne Nat c3 OR) → (@Ne Nat c7 OR) → (GaussOk b dk wd Wy tn ov dg) →  LawRun w L fa rest Q E { heap := hp', gens := gs, drawn := dr, toks := tk', os := os0 }) →
    LawRun w L fa (hdS (List.tail (List.tail (List.tail (List.tail (List.tail (List.tail (List.tail (List.tail (List.tail (List.tail (List.tail (List.tail (List.tail (List.tail (List.tail (List.tail (List.tail (lawBody w)))))))))))))))))) :: hdS (List.tail (List.tail (List.tail (List.tail (List.tail (List.tail (List.tail (List.tail (List.tail (List.tail (List.tail (List.tail (List.tail (List.tail (List.tail (List.tail (List.tail (List.tail (lawBody w))))))))))))))))))) :: rest) Q E { heap := hp, gens := gs, drawn := dr, toks := tk0, os := os0 }
def P19 (w : World) (p : Program) (loose : List Str) (mean : ExcName → Option Value) (mg : Str → Option Value) (mb : Str → Option Value) (fa : Addr) (h₀ : Heap) (L : Addr) (hp : Heap) (gs : Array GenState) (dr : Drawn) (tk0 : Nat) (os0 : OsState) (Q : Flow → Shared → Prop) (E : Value → Shared → Prop) (rest : List Stmt) (u : Str → Option Value) (o1 : Obj) (o2 : Obj) (o3 : Obj) (o4 : Obj) (o5 : Obj) (o6 : Obj) (o7 : Obj) (K : Addr) (RS : Addr) (cc : Addr) (cd : Addr) (ce : Addr) (nk : Nat) (nr : Nat) (kvs : List Value) (rvs : List Value) (prs : List (Addr × Obj)) (nums : List Int) (b : Int) (dk : Int) (wd : Int) (tb : Tok) (td : Tok) (tw : Tok) (OR : Addr) (no : Nat) (ovs : List Value) (o3t : Obj) (o7t : Obj) (b3 : Obj) (b7 : Obj) (c3 : Addr) (c7 : Addr) (Wy : Nat → Int) (tn : Int) (ov : Int) (dg : List Int) (twy : Tok) (tpy : Tok) (ttn : Tok) (tov : Tok) : Prop :=
    Below callerA h₀ [] h₀ → (hd.heap_39 w.params).In h₀ → Top p loose mean mg mb h₀ → CodeHd h₀ 41 37 → CodeHd h₀ 34 30 → CodeHd h₀ 236 234 → LawOwn w L fa E → @LT.lt Nat _ 37 L → @LT.lt Nat _ 30 L → @LT.lt Nat _ 234 L →
    Fr h₀ L hp (kstB u [(Str.ofString "dark", .int dk td), (Str.ofString "width", .int wd tw), (Str.ofString "rests", .ref RS), (Str.ofString "orders", .ref OR), (Str.ofString "ways", .int (Wy dk.toNat) twy), (Str.ofString "power", .int (pw wd b) tpy), (Str.ofString "turns", .int tn ttn), (Str.ofString "over", .int ov tov)]) → News h₀ L hp ((OR, W.listOf ovs.toArray no) :: (30, o3t) :: (c3, b3) :: (37, o7t) :: (c7, b7) :: (K, W.listOf kvs.toArray nk) :: (RS, W.listOf rvs.toArray nr) :: (L + 1 + 1 + 1 + 1 + 1 + 1 + 1, o7) :: (L + 1 + 1 + 1 + 1 + 1 + 1, o6) :: (L + 1 + 1 + 1 + 1 + 1, o5) :: (L + 1 + 1 + 1 + 1, o4) :: (L + 1 + 1 + 1, o3) :: (L + 1 + 1, o2) :: (L + 1, o1) :: (234, tabObj #[rawInt 201, rawInt 41, .ref cc, rawInt 203, rawInt 41, .ref cd, rawInt 214, rawInt 60, .ref ce]) :: prs) →
    (o2.data = .cell (some (.int b tb))) → (o6.data = .cell none) → (4 ≤ b) → (b ≤ 6) → (2 ≤ dk) → (dk ≤ b - 2) → (3 ≤ wd) → (wd ≤ 1602) → (@LT.lt Nat _ (L + 1 + 1 + 1 + 1 + 1 + 1 + 1) (K)) → (@LT.lt Nat _ (K) (RS)) → (∀ q ∈ prs, @LT.lt Nat _ (RS) (q.1)) → (NumsOk b nums) → (PairsAre prs (fun _ => True) kvs (kindsOf b (ringsOf b dk))) → (PairsAre prs (fun u => @LT.lt Nat _ 0 u ∧ @LT.lt Nat _ u tk0) rvs (restsOf b dk nums (ringsOf b dk))) → (@LT.lt Nat _ (RS) (OR)) → (∀ q ∈ prs, @LT.lt Nat _ (q.1) (OR)) → (IntsAre ovs (ordersOf b dk)) → (Tabs o3t (c3, b3) o7t (c7, b7) ((K, W.listOf kvs.toArray nk) :: (RS, W.listOf rvs.toArray nr) :: (L + 1 + 1 + 1 + 1 + 1 + 1 + 1, o7) :: (L + 1 + 1 + 1 + 1 + 1 + 1, o6) :: (L + 1 + 1 + 1 + 1 + 1, o5) :: (L + 1 + 1 + 1 + 1, o4) :: (L + 1 + 1 + 1, o3) :: (L + 1 + 1, o2) :: (L + 1, o1) :: (234, tabObj #[rawInt 201, rawInt 41, .ref cc, rawInt 203, rawInt 41, .ref cd, rawInt 214, rawInt 60, .ref ce]) :: prs)) → (∀ q ∈ ((K, W.listOf kvs.toArray nk) :: (RS, W.listOf rvs.toArray nr) :: (L + 1 + 1 + 1 + 1 + 1 + 1 + 1, o7) :: (L + 1 + 1 + 1 + 1 + 1 + 1, o6) :: (L + 1 + 1 + 1 + 1 + 1, o5) :: (L + 1 + 1 + 1 + 1, o4) :: (L + 1 + 1 + 1, o3) :: (L + 1 + 1, o2) :: (L + 1, o1) :: (234, tabObj #[rawInt 201, rawInt 41, .ref cc, rawInt 203, rawInt 41, .ref cd, rawInt 214, rawInt 60, .ref ce]) :: prs : List (Addr × Obj)), q.1 ≠ L + 1 → q.1 ≠ c3) → (∀ q ∈ ((K, W.listOf kvs.toArray nk) :: (RS, W.listOf rvs.toArray nr) :: (L + 1 + 1 + 1 + 1 + 1 + 1 + 1, o7) :: (L + 1 + 1 + 1 + 1 + 1 + 1, o6) :: (L + 1 + 1 + 1 + 1 + 1, o5) :: (L + 1 + 1 + 1 + 1, o4) :: (L + 1 + 1 + 1, o3) :: (L + 1 + 1, o2) :: (L + 1, o1) :: (234, tabObj #[rawInt 201, rawInt 41, .ref cc, rawInt 203, rawInt 41, .ref cd, rawInt 214, rawInt 60, .ref ce]) :: prs : List (Addr × Obj)), q.1 ≠ L + 1 → q.1 ≠ c7) → (@Ne Nat c3 OR) → (@Ne Nat c7 OR) → (GaussOk b dk wd Wy tn ov dg) → 
    (∀ (hp' : Heap) (tk' : Nat) (u' : Str → Option Value) (o1 o2 o3 o4 o5 o6 o7 : Obj) (K RS cc cd ce : Addr) (nk nr : Nat) (kvs rvs : List Value) (prs : List (Addr × Obj)) (nums : List Int) (b dk wd : Int) (tb td tw : Tok) (OR : Addr) (no : Nat) (ovs : List Value) (o3t o7t b3 b7 : Obj) (c3 c7 : Addr) (Wy : Nat → Int) (tn ov : Int) (dg : List Int) (twy : Tok) (tpy ttn tov : Tok), Fr h₀ L hp' (kstB u' [(Str.ofString "dark", .int dk td), (Str.ofString "width", .int wd tw), (Str.ofString "rests", .ref RS), (Str.ofString "orders", .ref OR), (Str.ofString "ways", .int (Wy dk.toNat) twy), (Str.ofString "power", .int (pw wd b) tpy), (Str.ofString "turns", .int tn ttn), (Str.ofString "over", .int ov tov)]) → News h₀ L hp' ((OR, W.listOf ovs.toArray no) :: (30, o3t) :: (c3, b3) :: (37, o7t) :: (c7, b7) :: (K, W.listOf kvs.toArray nk) :: (RS, W.listOf rvs.toArray nr) :: (L + 1 + 1 + 1 + 1 + 1 + 1 + 1, o7) :: (L + 1 + 1 + 1 + 1 + 1 + 1, o6) :: (L + 1 + 1 + 1 + 1 + 1, o5) :: (L + 1 + 1 + 1 + 1, o4) :: (L + 1 + 1 + 1, o3) :: (L + 1 + 1, o2) :: (L + 1, o1) :: (234, tabObj #[rawInt 201, rawInt 41, .ref cc, rawInt 203, rawInt 41, .ref cd, rawInt 214, rawInt 60, .ref ce]) :: prs) →
      (o2.data = .cell (some (.int b tb))) → (o6.data = .cell none) → (4 ≤ b) → (b ≤ 6) → (2 ≤ dk) → (dk ≤ b - 2) → (3 ≤ wd) → (wd ≤ 1602) → (@LT.lt Nat _ (L + 1 + 1 + 1 + 1 + 1 + 1 + 1) (K)) → (@LT.lt Nat _ (K) (RS)) → (∀ q ∈ prs, @LT.lt Nat _ (RS) (q.1)) → (NumsOk b nums) → (PairsAre prs (fun _ => True) kvs (kindsOf b (ringsOf b dk))) → (PairsAre prs (fun u => @LT.lt Nat _ 0 u ∧ @LT.lt Nat _ u tk') rvs (restsOf b dk nums (ringsOf b dk))) → (@LT.lt Nat _ (RS) (OR)) → (∀ q ∈ prs, @LT.lt Nat _ (q.1) (OR)) → (IntsAre ovs (ordersOf b dk)) → (Tabs o3t (c3, b3) o7t (c7, b7) ((K, W.listOf kvs.toArray nk) :: (RS, W.listOf rvs.toArray nr) :: (L + 1 + 1 + 1 + 1 + 1 + 1 + 1, o7) :: (L + 1 + 1 + 1 + 1 + 1 + 1, o6) :: (L + 1 + 1 + 1 + 1 + 1, o5) :: (L + 1 + 1 + 1 + 1, o4) :: (L + 1 + 1 + 1, o3) :: (L + 1 + 1, o2) :: (L + 1, o1) :: (234, tabObj #[rawInt 201, rawInt 41, .ref cc, rawInt 203, rawInt 41, .ref cd, rawInt 214, rawInt 60, .ref ce]) :: prs)) → (∀ q ∈ ((K, W.listOf kvs.toArray nk) :: (RS, W.listOf rvs.toArray nr) :: (L + 1 + 1 + 1 + 1 + 1 + 1 + 1, o7) :: (L + 1 + 1 + 1 + 1 + 1 + 1, o6) :: (L + 1 + 1 + 1 + 1 + 1, o5) :: (L + 1 + 1 + 1 + 1, o4) :: (L + 1 + 1 + 1, o3) :: (L + 1 + 1, o2) :: (L + 1, o1) :: (234, tabObj #[rawInt 201, rawInt 41, .ref cc, rawInt 203, rawInt 41, .ref cd, rawInt 214, rawInt 60, .ref ce]) :: prs : List (Addr × Obj)), q.1 ≠ L + 1 → q.1 ≠ c3) → (∀ q ∈ ((K, W.listOf kvs.toArray nk) :: (RS, W.listOf rvs.toArray nr) :: (L + 1 + 1 + 1 + 1 + 1 + 1 + 1, o7) :: (L + 1 + 1 + 1 + 1 + 1 + 1, o6) :: (L + 1 + 1 + 1 + 1 + 1, o5) :: (L + 1 + 1 + 1 + 1, o4) :: (L + 1 + 1 + 1, o3) :: (L + 1 + 1, o2) :: (L + 1, o1) :: (234, tabObj #[rawInt 201, rawInt 41, .ref cc, rawInt 203, rawInt 41, .ref cd, rawInt 214, rawInt 60, .ref ce]) :: prs : List (Addr × Obj)), q.1 ≠ L + 1 → q.1 ≠ c7) → (@Ne Nat c3 OR) → (@Ne Nat c7 OR) → (GaussOk b dk wd Wy tn ov dg) →  LawRun w L fa rest Q E { heap := hp', gens := gs, drawn := dr, toks := tk', os := os0 }) →
    LawRun w L fa (hdS (List.tail (List.tail (List.tail (List.tail (List.tail (List.tail (List.tail (List.tail (List.tail (List.tail (List.tail (List.tail (List.tail (List.tail (List.tail (List.tail (List.tail (List.tail (List.tail (lawBody w)))))))))))))))))))) :: rest) Q E { heap := hp, gens := gs, drawn := dr, toks := tk0, os := os0 }
def P20 (w : World) (p : Program) (loose : List Str) (mean : ExcName → Option Value) (mg : Str → Option Value) (mb : Str → Option Value) (fa : Addr) (h₀ : Heap) (L : Addr) (hp : Heap) (gs : Array GenState) (dr : Drawn) (tk0 : Nat) (os0 : OsState) (Q : Flow → Shared → Prop) (E : Value → Shared → Prop) (rest : List Stmt) (u : Str → Option Value) (o1 : Obj) (o2 : Obj) (o3 : Obj) (o4 : Obj) (o5 : Obj) (o6 : Obj) (o7 : Obj) (K : Addr) (RS : Addr) (cc : Addr) (cd : Addr) (ce : Addr) (nk : Nat) (nr : Nat) (kvs : List Value) (rvs : List Value) (prs : List (Addr × Obj)) (nums : List Int) (b : Int) (dk : Int) (wd : Int) (tb : Tok) (td : Tok) (tw : Tok) (OR : Addr) (no : Nat) (ovs : List Value) (o3t : Obj) (o7t : Obj) (b3 : Obj) (b7 : Obj) (c3 : Addr) (c7 : Addr) (Wy : Nat → Int) (tn : Int) (ov : Int) (dg : List Int) (twy : Tok) (tpy : Tok) (ttn : Tok) (tov : Tok) : Prop :=
    importsNone p = true → Below callerA h₀ [] h₀ → (hd.heap_39 w.params).In h₀ → Top p loose mean mg mb h₀ → CodeHd h₀ 41 37 → CodeHd h₀ 34 30 → CodeHd h₀ 236 234 → LawOwn w L fa E → @LT.lt Nat _ 37 L → @LT.lt Nat _ 30 L → @LT.lt Nat _ 234 L →
    Fr h₀ L hp (kstB u [(Str.ofString "dark", .int dk td), (Str.ofString "width", .int wd tw), (Str.ofString "rests", .ref RS), (Str.ofString "orders", .ref OR), (Str.ofString "ways", .int (Wy dk.toNat) twy), (Str.ofString "power", .int (pw wd b) tpy), (Str.ofString "turns", .int tn ttn), (Str.ofString "over", .int ov tov)]) → News h₀ L hp ((OR, W.listOf ovs.toArray no) :: (30, o3t) :: (c3, b3) :: (37, o7t) :: (c7, b7) :: (K, W.listOf kvs.toArray nk) :: (RS, W.listOf rvs.toArray nr) :: (L + 1 + 1 + 1 + 1 + 1 + 1 + 1, o7) :: (L + 1 + 1 + 1 + 1 + 1 + 1, o6) :: (L + 1 + 1 + 1 + 1 + 1, o5) :: (L + 1 + 1 + 1 + 1, o4) :: (L + 1 + 1 + 1, o3) :: (L + 1 + 1, o2) :: (L + 1, o1) :: (234, tabObj #[rawInt 201, rawInt 41, .ref cc, rawInt 203, rawInt 41, .ref cd, rawInt 214, rawInt 60, .ref ce]) :: prs) →
    (o2.data = .cell (some (.int b tb))) → (o6.data = .cell none) → (4 ≤ b) → (b ≤ 6) → (2 ≤ dk) → (dk ≤ b - 2) → (3 ≤ wd) → (wd ≤ 1602) → (@LT.lt Nat _ (L + 1 + 1 + 1 + 1 + 1 + 1 + 1) (K)) → (@LT.lt Nat _ (K) (RS)) → (∀ q ∈ prs, @LT.lt Nat _ (RS) (q.1)) → (NumsOk b nums) → (PairsAre prs (fun _ => True) kvs (kindsOf b (ringsOf b dk))) → (PairsAre prs (fun u => @LT.lt Nat _ 0 u ∧ @LT.lt Nat _ u tk0) rvs (restsOf b dk nums (ringsOf b dk))) → (@LT.lt Nat _ (RS) (OR)) → (∀ q ∈ prs, @LT.lt Nat _ (q.1) (OR)) → (IntsAre ovs (ordersOf b dk)) → (Tabs o3t (c3, b3) o7t (c7, b7) ((K, W.listOf kvs.toArray nk) :: (RS, W.listOf rvs.toArray nr) :: (L + 1 + 1 + 1 + 1 + 1 + 1 + 1, o7) :: (L + 1 + 1 + 1 + 1 + 1 + 1, o6) :: (L + 1 + 1 + 1 + 1 + 1, o5) :: (L + 1 + 1 + 1 + 1, o4) :: (L + 1 + 1 + 1, o3) :: (L + 1 + 1, o2) :: (L + 1, o1) :: (234, tabObj #[rawInt 201, rawInt 41, .ref cc, rawInt 203, rawInt 41, .ref cd, rawInt 214, rawInt 60, .ref ce]) :: prs)) → (∀ q ∈ ((K, W.listOf kvs.toArray nk) :: (RS, W.listOf rvs.toArray nr) :: (L + 1 + 1 + 1 + 1 + 1 + 1 + 1, o7) :: (L + 1 + 1 + 1 + 1 + 1 + 1, o6) :: (L + 1 + 1 + 1 + 1 + 1, o5) :: (L + 1 + 1 + 1 + 1, o4) :: (L + 1 + 1 + 1, o3) :: (L + 1 + 1, o2) :: (L + 1, o1) :: (234, tabObj #[rawInt 201, rawInt 41, .ref cc, rawInt 203, rawInt 41, .ref cd, rawInt 214, rawInt 60, .ref ce]) :: prs : List (Addr × Obj)), q.1 ≠ L + 1 → q.1 ≠ c3) → (∀ q ∈ ((K, W.listOf kvs.toArray nk) :: (RS, W.listOf rvs.toArray nr) :: (L + 1 + 1 + 1 + 1 + 1 + 1 + 1, o7) :: (L + 1 + 1 + 1 + 1 + 1 + 1, o6) :: (L + 1 + 1 + 1 + 1 + 1, o5) :: (L + 1 + 1 + 1 + 1, o4) :: (L + 1 + 1 + 1, o3) :: (L + 1 + 1, o2) :: (L + 1, o1) :: (234, tabObj #[rawInt 201, rawInt 41, .ref cc, rawInt 203, rawInt 41, .ref cd, rawInt 214, rawInt 60, .ref ce]) :: prs : List (Addr × Obj)), q.1 ≠ L + 1 → q.1 ≠ c7) → (@Ne Nat c3 OR) → (@Ne Nat c7 OR) → (GaussOk b dk wd Wy tn ov dg) → 
    (∀ (hp' : Heap) (tk' : Nat) (u' : Str → Option Value) (o1 o2 o3 o4 o5 o6 o7 : Obj) (K RS cc cd ce : Addr) (nk nr : Nat) (kvs rvs : List Value) (prs : List (Addr × Obj)) (nums : List Int) (b dk wd : Int) (tb td tw : Tok) (OR : Addr) (no : Nat) (ovs : List Value) (o3t o7t b3 b7 : Obj) (c3 c7 : Addr) (Wy : Nat → Int) (tn ov : Int) (dg : List Int) (twy : Tok) (tpy ttn tov : Tok), Fr h₀ L hp' (kstB u' [(Str.ofString "dark", .int dk td), (Str.ofString "width", .int wd tw), (Str.ofString "rests", .ref RS), (Str.ofString "orders", .ref OR), (Str.ofString "ways", .int (Wy dk.toNat) twy), (Str.ofString "power", .int (pw wd b) tpy), (Str.ofString "turns", .int tn ttn), (Str.ofString "over", .int ov tov)]) → News h₀ L hp' ((OR, W.listOf ovs.toArray no) :: (30, o3t) :: (c3, b3) :: (37, o7t) :: (c7, b7) :: (K, W.listOf kvs.toArray nk) :: (RS, W.listOf rvs.toArray nr) :: (L + 1 + 1 + 1 + 1 + 1 + 1 + 1, o7) :: (L + 1 + 1 + 1 + 1 + 1 + 1, o6) :: (L + 1 + 1 + 1 + 1 + 1, o5) :: (L + 1 + 1 + 1 + 1, o4) :: (L + 1 + 1 + 1, o3) :: (L + 1 + 1, o2) :: (L + 1, o1) :: (234, tabObj #[rawInt 201, rawInt 41, .ref cc, rawInt 203, rawInt 41, .ref cd, rawInt 214, rawInt 60, .ref ce]) :: prs) →
      (o2.data = .cell (some (.int b tb))) → (o6.data = .cell none) → (4 ≤ b) → (b ≤ 6) → (2 ≤ dk) → (dk ≤ b - 2) → (3 ≤ wd) → (wd ≤ 1602) → (@LT.lt Nat _ (L + 1 + 1 + 1 + 1 + 1 + 1 + 1) (K)) → (@LT.lt Nat _ (K) (RS)) → (∀ q ∈ prs, @LT.lt Nat _ (RS) (q.1)) → (NumsOk b nums) → (PairsAre prs (fun _ => True) kvs (kindsOf b (ringsOf b dk))) → (PairsAre prs (fun u => @LT.lt Nat _ 0 u ∧ @LT.lt Nat _ u tk') rvs (restsOf b dk nums (ringsOf b dk))) → (@LT.lt Nat _ (RS) (OR)) → (∀ q ∈ prs, @LT.lt Nat _ (q.1) (OR)) → (IntsAre ovs (ordersOf b dk)) → (Tabs o3t (c3, b3) o7t (c7, b7) ((K, W.listOf kvs.toArray nk) :: (RS, W.listOf rvs.toArray nr) :: (L + 1 + 1 + 1 + 1 + 1 + 1 + 1, o7) :: (L + 1 + 1 + 1 + 1 + 1 + 1, o6) :: (L + 1 + 1 + 1 + 1 + 1, o5) :: (L + 1 + 1 + 1 + 1, o4) :: (L + 1 + 1 + 1, o3) :: (L + 1 + 1, o2) :: (L + 1, o1) :: (234, tabObj #[rawInt 201, rawInt 41, .ref cc, rawInt 203, rawInt 41, .ref cd, rawInt 214, rawInt 60, .ref ce]) :: prs)) → (∀ q ∈ ((K, W.listOf kvs.toArray nk) :: (RS, W.listOf rvs.toArray nr) :: (L + 1 + 1 + 1 + 1 + 1 + 1 + 1, o7) :: (L + 1 + 1 + 1 + 1 + 1 + 1, o6) :: (L + 1 + 1 + 1 + 1 + 1, o5) :: (L + 1 + 1 + 1 + 1, o4) :: (L + 1 + 1 + 1, o3) :: (L + 1 + 1, o2) :: (L + 1, o1) :: (234, tabObj #[rawInt 201, rawInt 41, .ref cc, rawInt 203, rawInt 41, .ref cd, rawInt 214, rawInt 60, .ref ce]) :: prs : List (Addr × Obj)), q.1 ≠ L + 1 → q.1 ≠ c3) → (∀ q ∈ ((K, W.listOf kvs.toArray nk) :: (RS, W.listOf rvs.toArray nr) :: (L + 1 + 1 + 1 + 1 + 1 + 1 + 1, o7) :: (L + 1 + 1 + 1 + 1 + 1 + 1, o6) :: (L + 1 + 1 + 1 + 1 + 1, o5) :: (L + 1 + 1 + 1 + 1, o4) :: (L + 1 + 1 + 1, o3) :: (L + 1 + 1, o2) :: (L + 1, o1) :: (234, tabObj #[rawInt 201, rawInt 41, .ref cc, rawInt 203, rawInt 41, .ref cd, rawInt 214, rawInt 60, .ref ce]) :: prs : List (Addr × Obj)), q.1 ≠ L + 1 → q.1 ≠ c7) → (@Ne Nat c3 OR) → (@Ne Nat c7 OR) → (GaussOk b dk wd Wy tn ov dg) →  LawRun w L fa rest Q E { heap := hp', gens := gs, drawn := dr, toks := tk', os := os0 }) →
    LawRun w L fa (hdS (List.tail (List.tail (List.tail (List.tail (List.tail (List.tail (List.tail (List.tail (List.tail (List.tail (List.tail (List.tail (List.tail (List.tail (List.tail (List.tail (List.tail (List.tail (List.tail (List.tail (lawBody w))))))))))))))))))))) :: hdS (List.tail (List.tail (List.tail (List.tail (List.tail (List.tail (List.tail (List.tail (List.tail (List.tail (List.tail (List.tail (List.tail (List.tail (List.tail (List.tail (List.tail (List.tail (List.tail (List.tail (List.tail (lawBody w)))))))))))))))))))))) :: rest) Q E { heap := hp, gens := gs, drawn := dr, toks := tk0, os := os0 }
def P22 (w : World) (p : Program) (loose : List Str) (mean : ExcName → Option Value) (mg : Str → Option Value) (mb : Str → Option Value) (fa : Addr) (h₀ : Heap) (L : Addr) (hp : Heap) (gs : Array GenState) (dr : Drawn) (tk0 : Nat) (os0 : OsState) (Q : Flow → Shared → Prop) (E : Value → Shared → Prop) (rest : List Stmt) (u : Str → Option Value) (o1 : Obj) (o2 : Obj) (o3 : Obj) (o4 : Obj) (o5 : Obj) (o6 : Obj) (o7 : Obj) (K : Addr) (RS : Addr) (cc : Addr) (cd : Addr) (ce : Addr) (nk : Nat) (nr : Nat) (kvs : List Value) (rvs : List Value) (prs : List (Addr × Obj)) (nums : List Int) (b : Int) (dk : Int) (wd : Int) (tb : Tok) (td : Tok) (tw : Tok) (OR : Addr) (no : Nat) (ovs : List Value) (o3t : Obj) (o7t : Obj) (b3 : Obj) (b7 : Obj) (c3 : Addr) (c7 : Addr) (Wy : Nat → Int) (tn : Int) (ov : Int) (dg : List Int) (twy : Tok) (tpy : Tok) (ttn : Tok) (tov : Tok) : Prop :=
    importsNone p = true → Below callerA h₀ [] h₀ → (hd.heap_39 w.params).In h₀ → Top p loose mean mg mb h₀ → CodeHd h₀ 41 37 → CodeHd h₀ 34 30 → CodeHd h₀ 236 234 → LawOwn w L fa E → @LT.lt Nat _ 37 L → @LT.lt Nat _ 30 L → @LT.lt Nat _ 234 L →
    Fr h₀ L hp (kstB u [(Str.ofString "dark", .int dk td), (Str.ofString "width", .int wd tw), (Str.ofString "rests", .ref RS), (Str.ofString "orders", .ref OR), (Str.ofString "ways", .int (Wy dk.toNat) twy), (Str.ofString "power", .int (pw wd b) tpy), (Str.ofString "turns", .int tn ttn), (Str.ofString "over", .int ov tov)]) → News h₀ L hp ((OR, W.listOf ovs.toArray no) :: (30, o3t) :: (c3, b3) :: (37, o7t) :: (c7, b7) :: (K, W.listOf kvs.toArray nk) :: (RS, W.listOf rvs.toArray nr) :: (L + 1 + 1 + 1 + 1 + 1 + 1 + 1, o7) :: (L + 1 + 1 + 1 + 1 + 1 + 1, o6) :: (L + 1 + 1 + 1 + 1 + 1, o5) :: (L + 1 + 1 + 1 + 1, o4) :: (L + 1 + 1 + 1, o3) :: (L + 1 + 1, o2) :: (L + 1, o1) :: (234, tabObj #[rawInt 201, rawInt 41, .ref cc, rawInt 203, rawInt 41, .ref cd, rawInt 214, rawInt 60, .ref ce]) :: prs) →
    (o2.data = .cell (some (.int b tb))) → (o6.data = .cell none) → (4 ≤ b) → (b ≤ 6) → (2 ≤ dk) → (dk ≤ b - 2) → (3 ≤ wd) → (wd ≤ 1602) → (@LT.lt Nat _ (L + 1 + 1 + 1 + 1 + 1 + 1 + 1) (K)) → (@LT.lt Nat _ (K) (RS)) → (∀ q ∈ prs, @LT.lt Nat _ (RS) (q.1)) → (NumsOk b nums) → (PairsAre prs (fun _ => True) kvs (kindsOf b (ringsOf b dk))) → (PairsAre prs (fun u => @LT.lt Nat _ 0 u ∧ @LT.lt Nat _ u tk0) rvs (restsOf b dk nums (ringsOf b dk))) → (@LT.lt Nat _ (RS) (OR)) → (∀ q ∈ prs, @LT.lt Nat _ (q.1) (OR)) → (IntsAre ovs (ordersOf b dk)) → (Tabs o3t (c3, b3) o7t (c7, b7) ((K, W.listOf kvs.toArray nk) :: (RS, W.listOf rvs.toArray nr) :: (L + 1 + 1 + 1 + 1 + 1 + 1 + 1, o7) :: (L + 1 + 1 + 1 + 1 + 1 + 1, o6) :: (L + 1 + 1 + 1 + 1 + 1, o5) :: (L + 1 + 1 + 1 + 1, o4) :: (L + 1 + 1 + 1, o3) :: (L + 1 + 1, o2) :: (L + 1, o1) :: (234, tabObj #[rawInt 201, rawInt 41, .ref cc, rawInt 203, rawInt 41, .ref cd, rawInt 214, rawInt 60, .ref ce]) :: prs)) → (∀ q ∈ ((K, W.listOf kvs.toArray nk) :: (RS, W.listOf rvs.toArray nr) :: (L + 1 + 1 + 1 + 1 + 1 + 1 + 1, o7) :: (L + 1 + 1 + 1 + 1 + 1 + 1, o6) :: (L + 1 + 1 + 1 + 1 + 1, o5) :: (L + 1 + 1 + 1 + 1, o4) :: (L + 1 + 1 + 1, o3) :: (L + 1 + 1, o2) :: (L + 1, o1) :: (234, tabObj #[rawInt 201, rawInt 41, .ref cc, rawInt 203, rawInt 41, .ref cd, rawInt 214, rawInt 60, .ref ce]) :: prs : List (Addr × Obj)), q.1 ≠ L + 1 → q.1 ≠ c3) → (∀ q ∈ ((K, W.listOf kvs.toArray nk) :: (RS, W.listOf rvs.toArray nr) :: (L + 1 + 1 + 1 + 1 + 1 + 1 + 1, o7) :: (L + 1 + 1 + 1 + 1 + 1 + 1, o6) :: (L + 1 + 1 + 1 + 1 + 1, o5) :: (L + 1 + 1 + 1 + 1, o4) :: (L + 1 + 1 + 1, o3) :: (L + 1 + 1, o2) :: (L + 1, o1) :: (234, tabObj #[rawInt 201, rawInt 41, .ref cc, rawInt 203, rawInt 41, .ref cd, rawInt 214, rawInt 60, .ref ce]) :: prs : List (Addr × Obj)), q.1 ≠ L + 1 → q.1 ≠ c7) → (@Ne Nat c3 OR) → (@Ne Nat c7 OR) → (GaussOk b dk wd Wy tn ov dg) → 
    (∀ (hp' : Heap) (tk' : Nat) (u' : Str → Option Value) (o1 o2 o3 o4 o5 o6 o7 : Obj) (K RS cc cd ce : Addr) (nk nr : Nat) (kvs rvs : List Value) (prs : List (Addr × Obj)) (nums : List Int) (b dk wd : Int) (tb td tw : Tok) (OR : Addr) (no : Nat) (ovs : List Value) (o3t o7t b3 b7 : Obj) (c3 c7 : Addr) (Wy : Nat → Int) (tn ov : Int) (dg : List Int) (twy : Tok) (tpy ttn tov : Tok), Fr h₀ L hp' (kstB u' [(Str.ofString "dark", .int dk td), (Str.ofString "width", .int wd tw), (Str.ofString "rests", .ref RS), (Str.ofString "orders", .ref OR), (Str.ofString "ways", .int (Wy dk.toNat) twy), (Str.ofString "power", .int (pw wd b) tpy), (Str.ofString "turns", .int tn ttn), (Str.ofString "over", .int ov tov)]) → News h₀ L hp' ((OR, W.listOf ovs.toArray no) :: (30, o3t) :: (c3, b3) :: (37, o7t) :: (c7, b7) :: (K, W.listOf kvs.toArray nk) :: (RS, W.listOf rvs.toArray nr) :: (L + 1 + 1 + 1 + 1 + 1 + 1 + 1, o7) :: (L + 1 + 1 + 1 + 1 + 1 + 1, o6) :: (L + 1 + 1 + 1 + 1 + 1, o5) :: (L + 1 + 1 + 1 + 1, o4) :: (L + 1 + 1 + 1, o3) :: (L + 1 + 1, o2) :: (L + 1, o1) :: (234, tabObj #[rawInt 201, rawInt 41, .ref cc, rawInt 203, rawInt 41, .ref cd, rawInt 214, rawInt 60, .ref ce]) :: prs) →
      (o2.data = .cell (some (.int b tb))) → (o6.data = .cell none) → (4 ≤ b) → (b ≤ 6) → (2 ≤ dk) → (dk ≤ b - 2) → (3 ≤ wd) → (wd ≤ 1602) → (@LT.lt Nat _ (L + 1 + 1 + 1 + 1 + 1 + 1 + 1) (K)) → (@LT.lt Nat _ (K) (RS)) → (∀ q ∈ prs, @LT.lt Nat _ (RS) (q.1)) → (NumsOk b nums) → (PairsAre prs (fun _ => True) kvs (kindsOf b (ringsOf b dk))) → (PairsAre prs (fun u => @LT.lt Nat _ 0 u ∧ @LT.lt Nat _ u tk') rvs (restsOf b dk nums (ringsOf b dk))) → (@LT.lt Nat _ (RS) (OR)) → (∀ q ∈ prs, @LT.lt Nat _ (q.1) (OR)) → (IntsAre ovs (ordersOf b dk)) → (Tabs o3t (c3, b3) o7t (c7, b7) ((K, W.listOf kvs.toArray nk) :: (RS, W.listOf rvs.toArray nr) :: (L + 1 + 1 + 1 + 1 + 1 + 1 + 1, o7) :: (L + 1 + 1 + 1 + 1 + 1 + 1, o6) :: (L + 1 + 1 + 1 + 1 + 1, o5) :: (L + 1 + 1 + 1 + 1, o4) :: (L + 1 + 1 + 1, o3) :: (L + 1 + 1, o2) :: (L + 1, o1) :: (234, tabObj #[rawInt 201, rawInt 41, .ref cc, rawInt 203, rawInt 41, .ref cd, rawInt 214, rawInt 60, .ref ce]) :: prs)) → (∀ q ∈ ((K, W.listOf kvs.toArray nk) :: (RS, W.listOf rvs.toArray nr) :: (L + 1 + 1 + 1 + 1 + 1 + 1 + 1, o7) :: (L + 1 + 1 + 1 + 1 + 1 + 1, o6) :: (L + 1 + 1 + 1 + 1 + 1, o5) :: (L + 1 + 1 + 1 + 1, o4) :: (L + 1 + 1 + 1, o3) :: (L + 1 + 1, o2) :: (L + 1, o1) :: (234, tabObj #[rawInt 201, rawInt 41, .ref cc, rawInt 203, rawInt 41, .ref cd, rawInt 214, rawInt 60, .ref ce]) :: prs : List (Addr × Obj)), q.1 ≠ L + 1 → q.1 ≠ c3) → (∀ q ∈ ((K, W.listOf kvs.toArray nk) :: (RS, W.listOf rvs.toArray nr) :: (L + 1 + 1 + 1 + 1 + 1 + 1 + 1, o7) :: (L + 1 + 1 + 1 + 1 + 1 + 1, o6) :: (L + 1 + 1 + 1 + 1 + 1, o5) :: (L + 1 + 1 + 1 + 1, o4) :: (L + 1 + 1 + 1, o3) :: (L + 1 + 1, o2) :: (L + 1, o1) :: (234, tabObj #[rawInt 201, rawInt 41, .ref cc, rawInt 203, rawInt 41, .ref cd, rawInt 214, rawInt 60, .ref ce]) :: prs : List (Addr × Obj)), q.1 ≠ L + 1 → q.1 ≠ c7) → (@Ne Nat c3 OR) → (@Ne Nat c7 OR) → (GaussOk b dk wd Wy tn ov dg) →  LawRun w L fa rest Q E { heap := hp', gens := gs, drawn := dr, toks := tk', os := os0 }) →
    LawRun w L fa (hdS (List.tail (List.tail (List.tail (List.tail (List.tail (List.tail (List.tail (List.tail (List.tail (List.tail (List.tail (List.tail (List.tail (List.tail (List.tail (List.tail (List.tail (List.tail (List.tail (List.tail (List.tail (List.tail (lawBody w))))))))))))))))))))))) :: rest) Q E { heap := hp, gens := gs, drawn := dr, toks := tk0, os := os0 }
def P23 (w : World) (p : Program) (loose : List Str) (mean : ExcName → Option Value) (mg : Str → Option Value) (mb : Str → Option Value) (fa : Addr) (h₀ : Heap) (L : Addr) (hp : Heap) (gs : Array GenState) (dr : Drawn) (tk0 : Nat) (os0 : OsState) (Q : Flow → Shared → Prop) (E : Value → Shared → Prop) (rest : List Stmt) (u : Str → Option Value) (o1 : Obj) (o2 : Obj) (o3 : Obj) (o4 : Obj) (o5 : Obj) (o6 : Obj) (o7 : Obj) (K : Addr) (RS : Addr) (cc : Addr) (cd : Addr) (ce : Addr) (nk : Nat) (nr : Nat) (kvs : List Value) (rvs : List Value) (prs : List (Addr × Obj)) (nums : List Int) (b : Int) (dk : Int) (wd : Int) (tb : Tok) (td : Tok) (tw : Tok) (OR : Addr) (no : Nat) (ovs : List Value) (o3t : Obj) (o7t : Obj) (b3 : Obj) (b7 : Obj) (c3 : Addr) (c7 : Addr) (Wy : Nat → Int) (tn : Int) (ov : Int) (dg : List Int) (twy : Tok) (tpy : Tok) (ttn : Tok) (tov : Tok) : Prop :=
    Below callerA h₀ [] h₀ → (hd.heap_39 w.params).In h₀ → Top p loose mean mg mb h₀ → CodeHd h₀ 41 37 → CodeHd h₀ 34 30 → CodeHd h₀ 236 234 → LawOwn w L fa E → @LT.lt Nat _ 37 L → @LT.lt Nat _ 30 L → @LT.lt Nat _ 234 L →
    Fr h₀ L hp (kstB u [(Str.ofString "dark", .int dk td), (Str.ofString "width", .int wd tw), (Str.ofString "rests", .ref RS), (Str.ofString "orders", .ref OR), (Str.ofString "ways", .int (Wy dk.toNat) twy), (Str.ofString "power", .int (pw wd b) tpy), (Str.ofString "turns", .int tn ttn), (Str.ofString "over", .int ov tov)]) → News h₀ L hp ((OR, W.listOf ovs.toArray no) :: (30, o3t) :: (c3, b3) :: (37, o7t) :: (c7, b7) :: (K, W.listOf kvs.toArray nk) :: (RS, W.listOf rvs.toArray nr) :: (L + 1 + 1 + 1 + 1 + 1 + 1 + 1, o7) :: (L + 1 + 1 + 1 + 1 + 1 + 1, o6) :: (L + 1 + 1 + 1 + 1 + 1, o5) :: (L + 1 + 1 + 1 + 1, o4) :: (L + 1 + 1 + 1, o3) :: (L + 1 + 1, o2) :: (L + 1, o1) :: (234, tabObj #[rawInt 201, rawInt 41, .ref cc, rawInt 203, rawInt 41, .ref cd, rawInt 214, rawInt 60, .ref ce]) :: prs) →
    (o2.data = .cell (some (.int b tb))) → (o6.data = .cell none) → (4 ≤ b) → (b ≤ 6) → (2 ≤ dk) → (dk ≤ b - 2) → (3 ≤ wd) → (wd ≤ 1602) → (@LT.lt Nat _ (L + 1 + 1 + 1 + 1 + 1 + 1 + 1) (K)) → (@LT.lt Nat _ (K) (RS)) → (∀ q ∈ prs, @LT.lt Nat _ (RS) (q.1)) → (NumsOk b nums) → (PairsAre prs (fun _ => True) kvs (kindsOf b (ringsOf b dk))) → (PairsAre prs (fun u => @LT.lt Nat _ 0 u ∧ @LT.lt Nat _ u tk0) rvs (restsOf b dk nums (ringsOf b dk))) → (@LT.lt Nat _ (RS) (OR)) → (∀ q ∈ prs, @LT.lt Nat _ (q.1) (OR)) → (IntsAre ovs (ordersOf b dk)) → (Tabs o3t (c3, b3) o7t (c7, b7) ((K, W.listOf kvs.toArray nk) :: (RS, W.listOf rvs.toArray nr) :: (L + 1 + 1 + 1 + 1 + 1 + 1 + 1, o7) :: (L + 1 + 1 + 1 + 1 + 1 + 1, o6) :: (L + 1 + 1 + 1 + 1 + 1, o5) :: (L + 1 + 1 + 1 + 1, o4) :: (L + 1 + 1 + 1, o3) :: (L + 1 + 1, o2) :: (L + 1, o1) :: (234, tabObj #[rawInt 201, rawInt 41, .ref cc, rawInt 203, rawInt 41, .ref cd, rawInt 214, rawInt 60, .ref ce]) :: prs)) → (∀ q ∈ ((K, W.listOf kvs.toArray nk) :: (RS, W.listOf rvs.toArray nr) :: (L + 1 + 1 + 1 + 1 + 1 + 1 + 1, o7) :: (L + 1 + 1 + 1 + 1 + 1 + 1, o6) :: (L + 1 + 1 + 1 + 1 + 1, o5) :: (L + 1 + 1 + 1 + 1, o4) :: (L + 1 + 1 + 1, o3) :: (L + 1 + 1, o2) :: (L + 1, o1) :: (234, tabObj #[rawInt 201, rawInt 41, .ref cc, rawInt 203, rawInt 41, .ref cd, rawInt 214, rawInt 60, .ref ce]) :: prs : List (Addr × Obj)), q.1 ≠ L + 1 → q.1 ≠ c3) → (∀ q ∈ ((K, W.listOf kvs.toArray nk) :: (RS, W.listOf rvs.toArray nr) :: (L + 1 + 1 + 1 + 1 + 1 + 1 + 1, o7) :: (L + 1 + 1 + 1 + 1 + 1 + 1, o6) :: (L + 1 + 1 + 1 + 1 + 1, o5) :: (L + 1 + 1 + 1 + 1, o4) :: (L + 1 + 1 + 1, o3) :: (L + 1 + 1, o2) :: (L + 1, o1) :: (234, tabObj #[rawInt 201, rawInt 41, .ref cc, rawInt 203, rawInt 41, .ref cd, rawInt 214, rawInt 60, .ref ce]) :: prs : List (Addr × Obj)), q.1 ≠ L + 1 → q.1 ≠ c7) → (@Ne Nat c3 OR) → (@Ne Nat c7 OR) → (GaussOk b dk wd Wy tn ov dg) → 
    (∀ (hp' : Heap) (tk' : Nat) (u' : Str → Option Value) (o1 o2 o3 o4 o5 o6 o7 : Obj) (K RS cc cd ce : Addr) (nk nr : Nat) (kvs rvs : List Value) (prs : List (Addr × Obj)) (nums : List Int) (b dk wd : Int) (tb td tw : Tok) (OR : Addr) (no : Nat) (ovs : List Value) (o3t o7t b3 b7 : Obj) (c3 c7 : Addr) (Wy : Nat → Int) (tn ov : Int) (dg : List Int) (twy : Tok) (tpy ttn tov : Tok) (DG : Addr) (nd : Nat) (dvs : List Value), Fr h₀ L hp' (kstB u' [(Str.ofString "rests", .ref RS), (Str.ofString "orders", .ref OR), (Str.ofString "digits", .ref DG)]) → News h₀ L hp' ((30, o3t) :: (37, o7t) :: (DG, W.listOf dvs.toArray nd) :: (OR, W.listOf ovs.toArray no) :: (K, W.listOf kvs.toArray nk) :: (RS, W.listOf rvs.toArray nr) :: (L + 1 + 1 + 1 + 1 + 1 + 1 + 1, o7) :: (L + 1 + 1 + 1 + 1 + 1 + 1, o6) :: (L + 1 + 1 + 1 + 1 + 1, o5) :: (L + 1 + 1 + 1 + 1, o4) :: (L + 1 + 1 + 1, o3) :: (L + 1 + 1, o2) :: (L + 1, o1) :: (234, tabObj #[rawInt 201, rawInt 41, .ref cc, rawInt 203, rawInt 41, .ref cd, rawInt 214, rawInt 60, .ref ce]) :: prs) →
      (o2.data = .cell (some (.int b tb))) → (o6.data = .cell none) → (4 ≤ b) → (b ≤ 6) → (2 ≤ dk) → (dk ≤ b - 2) → (3 ≤ wd) → (wd ≤ 1602) → (@LT.lt Nat _ (L + 1 + 1 + 1 + 1 + 1 + 1 + 1) (K)) → (@LT.lt Nat _ (K) (RS)) → (∀ q ∈ prs, @LT.lt Nat _ (RS) (q.1)) → (NumsOk b nums) → (PairsAre prs (fun _ => True) kvs (kindsOf b (ringsOf b dk))) → (PairsAre prs (fun u => @LT.lt Nat _ 0 u ∧ @LT.lt Nat _ u tk') rvs (restsOf b dk nums (ringsOf b dk))) → (@LT.lt Nat _ (RS) (OR)) → (∀ q ∈ prs, @LT.lt Nat _ (q.1) (OR)) → (IntsAre ovs (ordersOf b dk)) → (GaussOk b dk wd Wy tn ov dg) → (IntsAre dvs dg) → (@LT.lt Nat _ (OR) (DG)) → (∃ ps, o3t = tabObj ps) → (∃ ps, o7t = tabObj ps) →  LawRun w L fa rest Q E { heap := hp', gens := gs, drawn := dr, toks := tk', os := os0 }) →
    LawRun w L fa (hdS (List.tail (List.tail (List.tail (List.tail (List.tail (List.tail (List.tail (List.tail (List.tail (List.tail (List.tail (List.tail (List.tail (List.tail (List.tail (List.tail (List.tail (List.tail (List.tail (List.tail (List.tail (List.tail (List.tail (lawBody w)))))))))))))))))))))))) :: hdS (List.tail (List.tail (List.tail (List.tail (List.tail (List.tail (List.tail (List.tail (List.tail (List.tail (List.tail (List.tail (List.tail (List.tail (List.tail (List.tail (List.tail (List.tail (List.tail (List.tail (List.tail (List.tail (List.tail (List.tail (lawBody w))))))))))))))))))))))))) :: rest) Q E { heap := hp, gens := gs, drawn := dr, toks := tk0, os := os0 }
def P25 (w : World) (p : Program) (loose : List Str) (mean : ExcName → Option Value) (mg : Str → Option Value) (mb : Str → Option Value) (fa : Addr) (h₀ : Heap) (L : Addr) (hp : Heap) (gs : Array GenState) (dr : Drawn) (tk0 : Nat) (os0 : OsState) (Q : Flow → Shared → Prop) (E : Value → Shared → Prop) (rest : List Stmt) (u : Str → Option Value) (o1 : Obj) (o2 : Obj) (o3 : Obj) (o4 : Obj) (o5 : Obj) (o6 : Obj) (o7 : Obj) (K : Addr) (RS : Addr) (cc : Addr) (cd : Addr) (ce : Addr) (nk : Nat) (nr : Nat) (kvs : List Value) (rvs : List Value) (prs : List (Addr × Obj)) (nums : List Int) (b : Int) (dk : Int) (wd : Int) (tb : Tok) (td : Tok) (tw : Tok) (OR : Addr) (no : Nat) (ovs : List Value) (o3t : Obj) (o7t : Obj) (b3 : Obj) (b7 : Obj) (c3 : Addr) (c7 : Addr) (Wy : Nat → Int) (tn : Int) (ov : Int) (dg : List Int) (twy : Tok) (tpy : Tok) (ttn : Tok) (tov : Tok) (DG : Addr) (nd : Nat) (dvs : List Value) : Prop :=
    Below callerA h₀ [] h₀ → (hd.heap_39 w.params).In h₀ → Top p loose mean mg mb h₀ → CodeHd h₀ 41 37 → CodeHd h₀ 34 30 → CodeHd h₀ 236 234 → LawOwn w L fa E → @LT.lt Nat _ 37 L → @LT.lt Nat _ 30 L → @LT.lt Nat _ 234 L →
    Fr h₀ L hp (kstB u [(Str.ofString "rests", .ref RS), (Str.ofString "orders", .ref OR), (Str.ofString "digits", .ref DG)]) → News h₀ L hp ((30, o3t) :: (37, o7t) :: (DG, W.listOf dvs.toArray nd) :: (OR, W.listOf ovs.toArray no) :: (K, W.listOf kvs.toArray nk) :: (RS, W.listOf rvs.toArray nr) :: (L + 1 + 1 + 1 + 1 + 1 + 1 + 1, o7) :: (L + 1 + 1 + 1 + 1 + 1 + 1, o6) :: (L + 1 + 1 + 1 + 1 + 1, o5) :: (L + 1 + 1 + 1 + 1, o4) :: (L + 1 + 1 + 1, o3) :: (L + 1 + 1, o2) :: (L + 1, o1) :: (234, tabObj #[rawInt 201, rawInt 41, .ref cc, rawInt 203, rawInt 41, .ref cd, rawInt 214, rawInt 60, .ref ce]) :: prs) →
    (o2.data = .cell (some (.int b tb))) → (o6.data = .cell none) → (4 ≤ b) → (b ≤ 6) → (2 ≤ dk) → (dk ≤ b - 2) → (3 ≤ wd) → (wd ≤ 1602) → (@LT.lt Nat _ (L + 1 + 1 + 1 + 1 + 1 + 1 + 1) (K)) → (@LT.lt Nat _ (K) (RS)) → (∀ q ∈ prs, @LT.lt Nat _ (RS) (q.1)) → (NumsOk b nums) → (PairsAre prs (fun _ => True) kvs (kindsOf b (ringsOf b dk))) → (PairsAre prs (fun u => @LT.lt Nat _ 0 u ∧ @LT.lt Nat _ u tk0) rvs (restsOf b dk nums (ringsOf b dk))) → (@LT.lt Nat _ (RS) (OR)) → (∀ q ∈ prs, @LT.lt Nat _ (q.1) (OR)) → (IntsAre ovs (ordersOf b dk)) → (GaussOk b dk wd Wy tn ov dg) → (IntsAre dvs dg) → (@LT.lt Nat _ (OR) (DG)) → (∃ ps, o3t = tabObj ps) → (∃ ps, o7t = tabObj ps) → 
    (∀ (hp' : Heap) (tk' : Nat) (u' : Str → Option Value) (o1 o2 o3 o4 o5 o6 o7 : Obj) (K RS cc cd ce : Addr) (nk nr : Nat) (kvs rvs : List Value) (prs : List (Addr × Obj)) (nums : List Int) (b dk wd : Int) (tb td tw : Tok) (OR : Addr) (no : Nat) (ovs : List Value) (o3t o7t b3 b7 : Obj) (c3 c7 : Addr) (Wy : Nat → Int) (tn ov : Int) (dg : List Int) (twy : Tok) (tpy ttn tov : Tok) (DG : Addr) (nd : Nat) (dvs : List Value) (RW TL : Addr) (nw nt : Nat) (row tvs : List Value), Fr h₀ L hp' (kstB u' [(Str.ofString "rests", .ref RS), (Str.ofString "orders", .ref OR), (Str.ofString "digits", .ref DG), (Str.ofString "row", .ref RW), (Str.ofString "tally", .ref TL)]) → News h₀ L hp' ((TL, W.listOf tvs.toArray nt) :: (RW, W.listOf row.toArray nw) :: (30, o3t) :: (37, o7t) :: (DG, W.listOf dvs.toArray nd) :: (OR, W.listOf ovs.toArray no) :: (K, W.listOf kvs.toArray nk) :: (RS, W.listOf rvs.toArray nr) :: (L + 1 + 1 + 1 + 1 + 1 + 1 + 1, o7) :: (L + 1 + 1 + 1 + 1 + 1 + 1, o6) :: (L + 1 + 1 + 1 + 1 + 1, o5) :: (L + 1 + 1 + 1 + 1, o4) :: (L + 1 + 1 + 1, o3) :: (L + 1 + 1, o2) :: (L + 1, o1) :: (234, tabObj #[rawInt 201, rawInt 41, .ref cc, rawInt 203, rawInt 41, .ref cd, rawInt 214, rawInt 60, .ref ce]) :: prs) →
      (o2.data = .cell (some (.int b tb))) → (o6.data = .cell none) → (4 ≤ b) → (b ≤ 6) → (2 ≤ dk) → (dk ≤ b - 2) → (3 ≤ wd) → (wd ≤ 1602) → (@LT.lt Nat _ (L + 1 + 1 + 1 + 1 + 1 + 1 + 1) (K)) → (@LT.lt Nat _ (K) (RS)) → (∀ q ∈ prs, @LT.lt Nat _ (RS) (q.1)) → (NumsOk b nums) → (PairsAre prs (fun _ => True) kvs (kindsOf b (ringsOf b dk))) → (PairsAre prs (fun u => @LT.lt Nat _ 0 u ∧ @LT.lt Nat _ u tk') rvs (restsOf b dk nums (ringsOf b dk))) → (@LT.lt Nat _ (RS) (OR)) → (∀ q ∈ prs, @LT.lt Nat _ (q.1) (OR)) → (IntsAre ovs (ordersOf b dk)) → (GaussOk b dk wd Wy tn ov dg) → (IntsAre dvs dg) → (@LT.lt Nat _ (OR) (DG)) → (∃ ps, o3t = tabObj ps) → (∃ ps, o7t = tabObj ps) → (@Ne Nat RW (L + 1 + 1 + 1 + 1 + 1 + 1)) → (@LT.lt Nat _ (L + 1 + 1 + 1 + 1 + 1 + 1) (TL)) → (@LT.lt Nat _ (RW) (TL)) → (IntsAre row ((restsOf b dk nums (ringsOf b dk)).map (·.2))) → (TokB tk' row) → (IntsAre tvs (tallyF (List.replicate b.toNat 0) ((restsOf b dk nums (ringsOf b dk)).map (·.2)))) →  LawRun w L fa rest Q E { heap := hp', gens := gs, drawn := dr, toks := tk', os := os0 }) →
    LawRun w L fa (hdS (List.tail (List.tail (List.tail (List.tail (List.tail (List.tail (List.tail (List.tail (List.tail (List.tail (List.tail (List.tail (List.tail (List.tail (List.tail (List.tail (List.tail (List.tail (List.tail (List.tail (List.tail (List.tail (List.tail (List.tail (List.tail (lawBody w)))))))))))))))))))))))))) :: hdS (List.tail (List.tail (List.tail (List.tail (List.tail (List.tail (List.tail (List.tail (List.tail (List.tail (List.tail (List.tail (List.tail (List.tail (List.tail (List.tail (List.tail (List.tail (List.tail (List.tail (List.tail (List.tail (List.tail (List.tail (List.tail (List.tail (lawBody w))))))))))))))))))))))))))) :: rest) Q E { heap := hp, gens := gs, drawn := dr, toks := tk0, os := os0 }
def P27 (w : World) (p : Program) (loose : List Str) (mean : ExcName → Option Value) (mg : Str → Option Value) (mb : Str → Option Value) (fa : Addr) (h₀ : Heap) (L : Addr) (hp : Heap) (gs : Array GenState) (dr : Drawn) (tk0 : Nat) (os0 : OsState) (Q : Flow → Shared → Prop) (E : Value → Shared → Prop) (rest : List Stmt) (u : Str → Option Value) (o1 : Obj) (o2 : Obj) (o3 : Obj) (o4 : Obj) (o5 : Obj) (o6 : Obj) (o7 : Obj) (K : Addr) (RS : Addr) (cc : Addr) (cd : Addr) (ce : Addr) (nk : Nat) (nr : Nat) (kvs : List Value) (rvs : List Value) (prs : List (Addr × Obj)) (nums : List Int) (b : Int) (dk : Int) (wd : Int) (tb : Tok) (td : Tok) (tw : Tok) (OR : Addr) (no : Nat) (ovs : List Value) (o3t : Obj) (o7t : Obj) (b3 : Obj) (b7 : Obj) (c3 : Addr) (c7 : Addr) (Wy : Nat → Int) (tn : Int) (ov : Int) (dg : List Int) (twy : Tok) (tpy : Tok) (ttn : Tok) (tov : Tok) (DG : Addr) (nd : Nat) (dvs : List Value) (RW : Addr) (TL : Addr) (nw : Nat) (nt : Nat) (row : List Value) (tvs : List Value) : Prop :=
    Below callerA h₀ [] h₀ → (hd.heap_39 w.params).In h₀ → Top p loose mean mg mb h₀ → CodeHd h₀ 41 37 → CodeHd h₀ 34 30 → CodeHd h₀ 236 234 → LawOwn w L fa E → @LT.lt Nat _ 37 L → @LT.lt Nat _ 30 L → @LT.lt Nat _ 234 L →
    Fr h₀ L hp (kstB u [(Str.ofString "rests", .ref RS), (Str.ofString "orders", .ref OR), (Str.ofString "digits", .ref DG), (Str.ofString "row", .ref RW), (Str.ofString "tally", .ref TL)]) → News h₀ L hp ((TL, W.listOf tvs.toArray nt) :: (RW, W.listOf row.toArray nw) :: (30, o3t) :: (37, o7t) :: (DG, W.listOf dvs.toArray nd) :: (OR, W.listOf ovs.toArray no) :: (K, W.listOf kvs.toArray nk) :: (RS, W.listOf rvs.toArray nr) :: (L + 1 + 1 + 1 + 1 + 1 + 1 + 1, o7) :: (L + 1 + 1 + 1 + 1 + 1 + 1, o6) :: (L + 1 + 1 + 1 + 1 + 1, o5) :: (L + 1 + 1 + 1 + 1, o4) :: (L + 1 + 1 + 1, o3) :: (L + 1 + 1, o2) :: (L + 1, o1) :: (234, tabObj #[rawInt 201, rawInt 41, .ref cc, rawInt 203, rawInt 41, .ref cd, rawInt 214, rawInt 60, .ref ce]) :: prs) →
    (o2.data = .cell (some (.int b tb))) → (o6.data = .cell none) → (4 ≤ b) → (b ≤ 6) → (2 ≤ dk) → (dk ≤ b - 2) → (3 ≤ wd) → (wd ≤ 1602) → (@LT.lt Nat _ (L + 1 + 1 + 1 + 1 + 1 + 1 + 1) (K)) → (@LT.lt Nat _ (K) (RS)) → (∀ q ∈ prs, @LT.lt Nat _ (RS) (q.1)) → (NumsOk b nums) → (PairsAre prs (fun _ => True) kvs (kindsOf b (ringsOf b dk))) → (PairsAre prs (fun u => @LT.lt Nat _ 0 u ∧ @LT.lt Nat _ u tk0) rvs (restsOf b dk nums (ringsOf b dk))) → (@LT.lt Nat _ (RS) (OR)) → (∀ q ∈ prs, @LT.lt Nat _ (q.1) (OR)) → (IntsAre ovs (ordersOf b dk)) → (GaussOk b dk wd Wy tn ov dg) → (IntsAre dvs dg) → (@LT.lt Nat _ (OR) (DG)) → (∃ ps, o3t = tabObj ps) → (∃ ps, o7t = tabObj ps) → (@Ne Nat RW (L + 1 + 1 + 1 + 1 + 1 + 1)) → (@LT.lt Nat _ (L + 1 + 1 + 1 + 1 + 1 + 1) (TL)) → (@LT.lt Nat _ (RW) (TL)) → (IntsAre row ((restsOf b dk nums (ringsOf b dk)).map (·.2))) → (TokB tk0 row) → (IntsAre tvs (tallyF (List.replicate b.toNat 0) ((restsOf b dk nums (ringsOf b dk)).map (·.2)))) → (SieveOk b ((restsOf b dk nums (ringsOf b dk)).map (·.2)) dg (ordersOf b dk)) → 
    (∀ (hp' : Heap) (tk' : Nat) (u' : Str → Option Value) (o3t o7t : Obj) (cc cd ce : Addr), Fr h₀ L hp' (kstB u' []) → News h₀ L hp' ((30, o3t) :: (37, o7t) :: (234, tabObj #[rawInt 201, rawInt 41, .ref cc, rawInt 203, rawInt 41, .ref cd, rawInt 214, rawInt 60, .ref ce]) :: []) →
      (∃ ps, o3t = tabObj ps) → (∃ ps, o7t = tabObj ps) →  LawRun w L fa rest Q E { heap := hp', gens := gs, drawn := dr, toks := tk', os := os0 }) →
    LawRun w L fa (hdS (List.tail (List.tail (List.tail (List.tail (List.tail (List.tail (List.tail (List.tail (List.tail (List.tail (List.tail (List.tail (List.tail (List.tail (List.tail (List.tail (List.tail (List.tail (List.tail (List.tail (List.tail (List.tail (List.tail (List.tail (List.tail (List.tail (List.tail (lawBody w)))))))))))))))))))))))))))) :: rest) Q E { heap := hp, gens := gs, drawn := dr, toks := tk0, os := os0 }
abbrev VT := (World) × (Program) × (List Str) × (ExcName → Option Value) × (Str → Option Value) × (Str → Option Value) × (Addr) × (Heap) × (Addr) × (Heap) × (Array GenState) × (Drawn) × (Nat) × (OsState) × (Flow → Shared → Prop) × (Value → Shared → Prop) × (List Stmt) × (Str → Option Value) × (Obj) × (Obj) × (Obj) × (Obj) × (Obj) × (Obj) × (Obj) × (Addr) × (List Value) × (List Int) × (Addr) × (Addr) × (List Value) × (List Int) × (Int) × (Int) × (Int) × (Tok) × (Tok) × (Tok) × (Addr) × (Addr) × (Nat) × (Addr) × (Nat) × (List Value) × (List Int) × (Addr) × (Addr) × (Nat) × (List Value) × (List Value) × (List (Addr × Obj)) × (Addr) × (Addr) × (Tok) × (Nat) × (List Value) × (Obj) × (Obj) × (Obj) × (Obj) × (Addr) × (Addr) × (Nat → Int) × (Int) × (Int) × (List Int) × (Tok) × (Tok) × (Tok) × (Tok) × (Addr) × (Nat) × (List Value) × (Addr) × (Addr) × (Nat) × (Nat) × (List Value) × (List Value)
noncomputable def G0.w (v : VT) : World := v.1
noncomputable def G0.p (v : VT) : Program := v.2.1
noncomputable def G0.loose (v : VT) : List Str := v.2.2.1
noncomputable def G0.mean (v : VT) : ExcName → Option Value := v.2.2.2.1
noncomputable def G0.mg (v : VT) : Str → Option Value := v.2.2.2.2.1
noncomputable def G0.mb (v : VT) : Str → Option Value := v.2.2.2.2.2.1
noncomputable def G0.fa (v : VT) : Addr := v.2.2.2.2.2.2.1
noncomputable def G0.h₀ (v : VT) : Heap := v.2.2.2.2.2.2.2.1
noncomputable def G0.L (v : VT) : Addr := v.2.2.2.2.2.2.2.2.1
noncomputable def G0.hp (v : VT) : Heap := v.2.2.2.2.2.2.2.2.2.1
noncomputable def G0.gs (v : VT) : Array GenState := v.2.2.2.2.2.2.2.2.2.2.1
noncomputable def G0.dr (v : VT) : Drawn := v.2.2.2.2.2.2.2.2.2.2.2.1
noncomputable def G0.tk0 (v : VT) : Nat := v.2.2.2.2.2.2.2.2.2.2.2.2.1
noncomputable def G0.os0 (v : VT) : OsState := v.2.2.2.2.2.2.2.2.2.2.2.2.2.1
noncomputable def G0.Q (v : VT) : Flow → Shared → Prop := v.2.2.2.2.2.2.2.2.2.2.2.2.2.2.1
noncomputable def G0.E (v : VT) : Value → Shared → Prop := v.2.2.2.2.2.2.2.2.2.2.2.2.2.2.2.1
noncomputable def G0.rest (v : VT) : List Stmt := v.2.2.2.2.2.2.2.2.2.2.2.2.2.2.2.2.1
noncomputable def G0.u (v : VT) : Str → Option Value := v.2.2.2.2.2.2.2.2.2.2.2.2.2.2.2.2.2.1
noncomputable def G0.o1 (v : VT) : Obj := v.2.2.2.2.2.2.2.2.2.2.2.2.2.2.2.2.2.2.1
noncomputable def G0.o2 (v : VT) : Obj := v.2.2.2.2.2.2.2.2.2.2.2.2.2.2.2.2.2.2.2.1
noncomputable def G0.o3 (v : VT) : Obj := v.2.2.2.2.2.2.2.2.2.2.2.2.2.2.2.2.2.2.2.2.1
noncomputable def G0.o4 (v : VT) : Obj := v.2.2.2.2.2.2.2.2.2.2.2.2.2.2.2.2.2.2.2.2.2.1
noncomputable def G0.o5 (v : VT) : Obj := v.2.2.2.2.2.2.2.2.2.2.2.2.2.2.2.2.2.2.2.2.2.2.1
noncomputable def G0.o6 (v : VT) : Obj := v.2.2.2.2.2.2.2.2.2.2.2.2.2.2.2.2.2.2.2.2.2.2.2.1
noncomputable def G0.o7 (v : VT) : Obj := v.2.2.2.2.2.2.2.2.2.2.2.2.2.2.2.2.2.2.2.2.2.2.2.2.1
noncomputable def G0.sl (v : VT) : Addr := v.2.2.2.2.2.2.2.2.2.2.2.2.2.2.2.2.2.2.2.2.2.2.2.2.2.1
noncomputable def G0.vs (v : VT) : List Value := v.2.2.2.2.2.2.2.2.2.2.2.2.2.2.2.2.2.2.2.2.2.2.2.2.2.2.1
noncomputable def G0.ns (v : VT) : List Int := v.2.2.2.2.2.2.2.2.2.2.2.2.2.2.2.2.2.2.2.2.2.2.2.2.2.2.2.1
noncomputable def G0.S (v : VT) : Addr := v.2.2.2.2.2.2.2.2.2.2.2.2.2.2.2.2.2.2.2.2.2.2.2.2.2.2.2.2.1
noncomputable def G0.D (v : VT) : Addr := v.2.2.2.2.2.2.2.2.2.2.2.2.2.2.2.2.2.2.2.2.2.2.2.2.2.2.2.2.2.1
noncomputable def G0.ys (v : VT) : List Value := v.2.2.2.2.2.2.2.2.2.2.2.2.2.2.2.2.2.2.2.2.2.2.2.2.2.2.2.2.2.2.1
noncomputable def G0.cs (v : VT) : List Int := v.2.2.2.2.2.2.2.2.2.2.2.2.2.2.2.2.2.2.2.2.2.2.2.2.2.2.2.2.2.2.2.1
noncomputable def G0.b (v : VT) : Int := v.2.2.2.2.2.2.2.2.2.2.2.2.2.2.2.2.2.2.2.2.2.2.2.2.2.2.2.2.2.2.2.2.1
noncomputable def G0.dk (v : VT) : Int := v.2.2.2.2.2.2.2.2.2.2.2.2.2.2.2.2.2.2.2.2.2.2.2.2.2.2.2.2.2.2.2.2.2.1
noncomputable def G0.wd (v : VT) : Int := v.2.2.2.2.2.2.2.2.2.2.2.2.2.2.2.2.2.2.2.2.2.2.2.2.2.2.2.2.2.2.2.2.2.2.1
noncomputable def G0.tb (v : VT) : Tok := v.2.2.2.2.2.2.2.2.2.2.2.2.2.2.2.2.2.2.2.2.2.2.2.2.2.2.2.2.2.2.2.2.2.2.2.1
noncomputable def G0.td (v : VT) : Tok := v.2.2.2.2.2.2.2.2.2.2.2.2.2.2.2.2.2.2.2.2.2.2.2.2.2.2.2.2.2.2.2.2.2.2.2.2.1
noncomputable def G0.tw (v : VT) : Tok := v.2.2.2.2.2.2.2.2.2.2.2.2.2.2.2.2.2.2.2.2.2.2.2.2.2.2.2.2.2.2.2.2.2.2.2.2.2.1
noncomputable def G0.cc (v : VT) : Addr := v.2.2.2.2.2.2.2.2.2.2.2.2.2.2.2.2.2.2.2.2.2.2.2.2.2.2.2.2.2.2.2.2.2.2.2.2.2.2.1
noncomputable def G0.cd (v : VT) : Addr := v.2.2.2.2.2.2.2.2.2.2.2.2.2.2.2.2.2.2.2.2.2.2.2.2.2.2.2.2.2.2.2.2.2.2.2.2.2.2.2.1
noncomputable def G0.n (v : VT) : Nat := v.2.2.2.2.2.2.2.2.2.2.2.2.2.2.2.2.2.2.2.2.2.2.2.2.2.2.2.2.2.2.2.2.2.2.2.2.2.2.2.2.1
noncomputable def G0.NM (v : VT) : Addr := v.2.2.2.2.2.2.2.2.2.2.2.2.2.2.2.2.2.2.2.2.2.2.2.2.2.2.2.2.2.2.2.2.2.2.2.2.2.2.2.2.2.1
noncomputable def G0.nk (v : VT) : Nat := v.2.2.2.2.2.2.2.2.2.2.2.2.2.2.2.2.2.2.2.2.2.2.2.2.2.2.2.2.2.2.2.2.2.2.2.2.2.2.2.2.2.2.1
noncomputable def G0.nvs (v : VT) : List Value := v.2.2.2.2.2.2.2.2.2.2.2.2.2.2.2.2.2.2.2.2.2.2.2.2.2.2.2.2.2.2.2.2.2.2.2.2.2.2.2.2.2.2.2.1
noncomputable def G0.nums (v : VT) : List Int := v.2.2.2.2.2.2.2.2.2.2.2.2.2.2.2.2.2.2.2.2.2.2.2.2.2.2.2.2.2.2.2.2.2.2.2.2.2.2.2.2.2.2.2.2.1
noncomputable def G0.K (v : VT) : Addr := v.2.2.2.2.2.2.2.2.2.2.2.2.2.2.2.2.2.2.2.2.2.2.2.2.2.2.2.2.2.2.2.2.2.2.2.2.2.2.2.2.2.2.2.2.2.1
noncomputable def G0.RS (v : VT) : Addr := v.2.2.2.2.2.2.2.2.2.2.2.2.2.2.2.2.2.2.2.2.2.2.2.2.2.2.2.2.2.2.2.2.2.2.2.2.2.2.2.2.2.2.2.2.2.2.1
noncomputable def G0.nr (v : VT) : Nat := v.2.2.2.2.2.2.2.2.2.2.2.2.2.2.2.2.2.2.2.2.2.2.2.2.2.2.2.2.2.2.2.2.2.2.2.2.2.2.2.2.2.2.2.2.2.2.2.1
noncomputable def G0.kvs (v : VT) : List Value := v.2.2.2.2.2.2.2.2.2.2.2.2.2.2.2.2.2.2.2.2.2.2.2.2.2.2.2.2.2.2.2.2.2.2.2.2.2.2.2.2.2.2.2.2.2.2.2.2.1
noncomputable def G0.rvs (v : VT) : List Value := v.2.2.2.2.2.2.2.2.2.2.2.2.2.2.2.2.2.2.2.2.2.2.2.2.2.2.2.2.2.2.2.2.2.2.2.2.2.2.2.2.2.2.2.2.2.2.2.2.2.1
noncomputable def G0.prs (v : VT) : List (Addr × Obj) := v.2.2.2.2.2.2.2.2.2.2.2.2.2.2.2.2.2.2.2.2.2.2.2.2.2.2.2.2.2.2.2.2.2.2.2.2.2.2.2.2.2.2.2.2.2.2.2.2.2.2.1
noncomputable def G0.ce (v : VT) : Addr := v.2.2.2.2.2.2.2.2.2.2.2.2.2.2.2.2.2.2.2.2.2.2.2.2.2.2.2.2.2.2.2.2.2.2.2.2.2.2.2.2.2.2.2.2.2.2.2.2.2.2.2.1
noncomputable def G0.OR (v : VT) : Addr := v.2.2.2.2.2.2.2.2.2.2.2.2.2.2.2.2.2.2.2.2.2.2.2.2.2.2.2.2.2.2.2.2.2.2.2.2.2.2.2.2.2.2.2.2.2.2.2.2.2.2.2.2.1
noncomputable def G0.tp0 (v : VT) : Tok := v.2.2.2.2.2.2.2.2.2.2.2.2.2.2.2.2.2.2.2.2.2.2.2.2.2.2.2.2.2.2.2.2.2.2.2.2.2.2.2.2.2.2.2.2.2.2.2.2.2.2.2.2.2.1
noncomputable def G0.no (v : VT) : Nat := v.2.2.2.2.2.2.2.2.2.2.2.2.2.2.2.2.2.2.2.2.2.2.2.2.2.2.2.2.2.2.2.2.2.2.2.2.2.2.2.2.2.2.2.2.2.2.2.2.2.2.2.2.2.2.1
noncomputable def G0.ovs (v : VT) : List Value := v.2.2.2.2.2.2.2.2.2.2.2.2.2.2.2.2.2.2.2.2.2.2.2.2.2.2.2.2.2.2.2.2.2.2.2.2.2.2.2.2.2.2.2.2.2.2.2.2.2.2.2.2.2.2.2.1
noncomputable def G0.o3t (v : VT) : Obj := v.2.2.2.2.2.2.2.2.2.2.2.2.2.2.2.2.2.2.2.2.2.2.2.2.2.2.2.2.2.2.2.2.2.2.2.2.2.2.2.2.2.2.2.2.2.2.2.2.2.2.2.2.2.2.2.2.1
noncomputable def G0.o7t (v : VT) : Obj := v.2.2.2.2.2.2.2.2.2.2.2.2.2.2.2.2.2.2.2.2.2.2.2.2.2.2.2.2.2.2.2.2.2.2.2.2.2.2.2.2.2.2.2.2.2.2.2.2.2.2.2.2.2.2.2.2.2.1
noncomputable def G0.b3 (v : VT) : Obj := v.2.2.2.2.2.2.2.2.2.2.2.2.2.2.2.2.2.2.2.2.2.2.2.2.2.2.2.2.2.2.2.2.2.2.2.2.2.2.2.2.2.2.2.2.2.2.2.2.2.2.2.2.2.2.2.2.2.2.1
noncomputable def G0.b7 (v : VT) : Obj := v.2.2.2.2.2.2.2.2.2.2.2.2.2.2.2.2.2.2.2.2.2.2.2.2.2.2.2.2.2.2.2.2.2.2.2.2.2.2.2.2.2.2.2.2.2.2.2.2.2.2.2.2.2.2.2.2.2.2.2.1
noncomputable def G0.c3 (v : VT) : Addr := v.2.2.2.2.2.2.2.2.2.2.2.2.2.2.2.2.2.2.2.2.2.2.2.2.2.2.2.2.2.2.2.2.2.2.2.2.2.2.2.2.2.2.2.2.2.2.2.2.2.2.2.2.2.2.2.2.2.2.2.2.1
noncomputable def G0.c7 (v : VT) : Addr := v.2.2.2.2.2.2.2.2.2.2.2.2.2.2.2.2.2.2.2.2.2.2.2.2.2.2.2.2.2.2.2.2.2.2.2.2.2.2.2.2.2.2.2.2.2.2.2.2.2.2.2.2.2.2.2.2.2.2.2.2.2.1
noncomputable def G0.Wy (v : VT) : Nat → Int := v.2.2.2.2.2.2.2.2.2.2.2.2.2.2.2.2.2.2.2.2.2.2.2.2.2.2.2.2.2.2.2.2.2.2.2.2.2.2.2.2.2.2.2.2.2.2.2.2.2.2.2.2.2.2.2.2.2.2.2.2.2.2.1
noncomputable def G0.tn (v : VT) : Int := v.2.2.2.2.2.2.2.2.2.2.2.2.2.2.2.2.2.2.2.2.2.2.2.2.2.2.2.2.2.2.2.2.2.2.2.2.2.2.2.2.2.2.2.2.2.2.2.2.2.2.2.2.2.2.2.2.2.2.2.2.2.2.2.1
noncomputable def G0.ov (v : VT) : Int := v.2.2.2.2.2.2.2.2.2.2.2.2.2.2.2.2.2.2.2.2.2.2.2.2.2.2.2.2.2.2.2.2.2.2.2.2.2.2.2.2.2.2.2.2.2.2.2.2.2.2.2.2.2.2.2.2.2.2.2.2.2.2.2.2.1
noncomputable def G0.dg (v : VT) : List Int := v.2.2.2.2.2.2.2.2.2.2.2.2.2.2.2.2.2.2.2.2.2.2.2.2.2.2.2.2.2.2.2.2.2.2.2.2.2.2.2.2.2.2.2.2.2.2.2.2.2.2.2.2.2.2.2.2.2.2.2.2.2.2.2.2.2.1
noncomputable def G0.twy (v : VT) : Tok := v.2.2.2.2.2.2.2.2.2.2.2.2.2.2.2.2.2.2.2.2.2.2.2.2.2.2.2.2.2.2.2.2.2.2.2.2.2.2.2.2.2.2.2.2.2.2.2.2.2.2.2.2.2.2.2.2.2.2.2.2.2.2.2.2.2.2.1
noncomputable def G0.tpy (v : VT) : Tok := v.2.2.2.2.2.2.2.2.2.2.2.2.2.2.2.2.2.2.2.2.2.2.2.2.2.2.2.2.2.2.2.2.2.2.2.2.2.2.2.2.2.2.2.2.2.2.2.2.2.2.2.2.2.2.2.2.2.2.2.2.2.2.2.2.2.2.2.1
noncomputable def G0.ttn (v : VT) : Tok := v.2.2.2.2.2.2.2.2.2.2.2.2.2.2.2.2.2.2.2.2.2.2.2.2.2.2.2.2.2.2.2.2.2.2.2.2.2.2.2.2.2.2.2.2.2.2.2.2.2.2.2.2.2.2.2.2.2.2.2.2.2.2.2.2.2.2.2.2.1
noncomputable def G0.tov (v : VT) : Tok := v.2.2.2.2.2.2.2.2.2.2.2.2.2.2.2.2.2.2.2.2.2.2.2.2.2.2.2.2.2.2.2.2.2.2.2.2.2.2.2.2.2.2.2.2.2.2.2.2.2.2.2.2.2.2.2.2.2.2.2.2.2.2.2.2.2.2.2.2.2.1
noncomputable def G0.DG (v : VT) : Addr := v.2.2.2.2.2.2.2.2.2.2.2.2.2.2.2.2.2.2.2.2.2.2.2.2.2.2.2.2.2.2.2.2.2.2.2.2.2.2.2.2.2.2.2.2.2.2.2.2.2.2.2.2.2.2.2.2.2.2.2.2.2.2.2.2.2.2.2.2.2.2.1
noncomputable def G0.nd (v : VT) : Nat := v.2.2.2.2.2.2.2.2.2.2.2.2.2.2.2.2.2.2.2.2.2.2.2.2.2.2.2.2.2.2.2.2.2.2.2.2.2.2.2.2.2.2.2.2.2.2.2.2.2.2.2.2.2.2.2.2.2.2.2.2.2.2.2.2.2.2.2.2.2.2.2.1
noncomputable def G0.dvs (v : VT) : List Value := v.2.2.2.2.2.2.2.2.2.2.2.2.2.2.2.2.2.2.2.2.2.2.2.2.2.2.2.2.2.2.2.2.2.2.2.2.2.2.2.2.2.2.2.2.2.2.2.2.2.2.2.2.2.2.2.2.2.2.2.2.2.2.2.2.2.2.2.2.2.2.2.2.1
noncomputable def G0.RW (v : VT) : Addr := v.2.2.2.2.2.2.2.2.2.2.2.2.2.2.2.2.2.2.2.2.2.2.2.2.2.2.2.2.2.2.2.2.2.2.2.2.2.2.2.2.2.2.2.2.2.2.2.2.2.2.2.2.2.2.2.2.2.2.2.2.2.2.2.2.2.2.2.2.2.2.2.2.2.1
noncomputable def G0.TL (v : VT) : Addr := v.2.2.2.2.2.2.2.2.2.2.2.2.2.2.2.2.2.2.2.2.2.2.2.2.2.2.2.2.2.2.2.2.2.2.2.2.2.2.2.2.2.2.2.2.2.2.2.2.2.2.2.2.2.2.2.2.2.2.2.2.2.2.2.2.2.2.2.2.2.2.2.2.2.2.1
noncomputable def G0.nw (v : VT) : Nat := v.2.2.2.2.2.2.2.2.2.2.2.2.2.2.2.2.2.2.2.2.2.2.2.2.2.2.2.2.2.2.2.2.2.2.2.2.2.2.2.2.2.2.2.2.2.2.2.2.2.2.2.2.2.2.2.2.2.2.2.2.2.2.2.2.2.2.2.2.2.2.2.2.2.2.2.1
noncomputable def G0.nt (v : VT) : Nat := v.2.2.2.2.2.2.2.2.2.2.2.2.2.2.2.2.2.2.2.2.2.2.2.2.2.2.2.2.2.2.2.2.2.2.2.2.2.2.2.2.2.2.2.2.2.2.2.2.2.2.2.2.2.2.2.2.2.2.2.2.2.2.2.2.2.2.2.2.2.2.2.2.2.2.2.2.1
noncomputable def G0.row (v : VT) : List Value := v.2.2.2.2.2.2.2.2.2.2.2.2.2.2.2.2.2.2.2.2.2.2.2.2.2.2.2.2.2.2.2.2.2.2.2.2.2.2.2.2.2.2.2.2.2.2.2.2.2.2.2.2.2.2.2.2.2.2.2.2.2.2.2.2.2.2.2.2.2.2.2.2.2.2.2.2.2.1
noncomputable def G0.tvs (v : VT) : List Value := v.2.2.2.2.2.2.2.2.2.2.2.2.2.2.2.2.2.2.2.2.2.2.2.2.2.2.2.2.2.2.2.2.2.2.2.2.2.2.2.2.2.2.2.2.2.2.2.2.2.2.2.2.2.2.2.2.2.2.2.2.2.2.2.2.2.2.2.2.2.2.2.2.2.2.2.2.2.2
def Q0 (v : VT) : Prop := P0 (G0.w v) (G0.p v) (G0.loose v) (G0.mean v) (G0.mg v) (G0.mb v) (G0.fa v) (G0.h₀ v) (G0.L v) (G0.hp v) (G0.gs v) (G0.dr v) (G0.tk0 v) (G0.os0 v) (G0.Q v) (G0.E v) (G0.rest v) (G0.u v) (G0.o1 v) (G0.o2 v) (G0.o3 v) (G0.o4 v) (G0.o5 v) (G0.o6 v) (G0.o7 v) (G0.sl v) (G0.vs v) (G0.ns v)
def Q5 (v : VT) : Prop := P5 (G0.w v) (G0.p v) (G0.loose v) (G0.mean v) (G0.mg v) (G0.mb v) (G0.fa v) (G0.h₀ v) (G0.L v) (G0.hp v) (G0.gs v) (G0.dr v) (G0.tk0 v) (G0.os0 v) (G0.Q v) (G0.E v) (G0.rest v) (G0.u v) (G0.o1 v) (G0.o2 v) (G0.o3 v) (G0.o4 v) (G0.o5 v) (G0.o6 v) (G0.o7 v) (G0.S v) (G0.D v) (G0.ys v) (G0.cs v) (G0.b v) (G0.dk v) (G0.wd v) (G0.tb v) (G0.td v) (G0.tw v)
def Q7 (v : VT) : Prop := P7 (G0.w v) (G0.p v) (G0.loose v) (G0.mean v) (G0.mg v) (G0.mb v) (G0.fa v) (G0.h₀ v) (G0.L v) (G0.hp v) (G0.gs v) (G0.dr v) (G0.tk0 v) (G0.os0 v) (G0.Q v) (G0.E v) (G0.rest v) (G0.u v) (G0.o1 v) (G0.o2 v) (G0.o3 v) (G0.o4 v) (G0.o5 v) (G0.o6 v) (G0.o7 v) (G0.S v) (G0.D v) (G0.cc v) (G0.cd v) (G0.n v) (G0.ys v) (G0.vs v) (G0.cs v) (G0.b v) (G0.dk v) (G0.wd v) (G0.tb v) (G0.td v) (G0.tw v)
def Q10 (v : VT) : Prop := P10 (G0.w v) (G0.p v) (G0.loose v) (G0.mean v) (G0.mg v) (G0.mb v) (G0.fa v) (G0.h₀ v) (G0.L v) (G0.hp v) (G0.gs v) (G0.dr v) (G0.tk0 v) (G0.os0 v) (G0.Q v) (G0.E v) (G0.rest v) (G0.u v) (G0.o1 v) (G0.o2 v) (G0.o3 v) (G0.o4 v) (G0.o5 v) (G0.o6 v) (G0.o7 v) (G0.NM v) (G0.cc v) (G0.cd v) (G0.nk v) (G0.nvs v) (G0.nums v) (G0.b v) (G0.dk v) (G0.wd v) (G0.tb v) (G0.td v) (G0.tw v)
def Q11 (v : VT) : Prop := P11 (G0.w v) (G0.p v) (G0.loose v) (G0.mean v) (G0.mg v) (G0.mb v) (G0.fa v) (G0.h₀ v) (G0.L v) (G0.hp v) (G0.gs v) (G0.dr v) (G0.tk0 v) (G0.os0 v) (G0.Q v) (G0.E v) (G0.rest v) (G0.u v) (G0.o1 v) (G0.o2 v) (G0.o3 v) (G0.o4 v) (G0.o5 v) (G0.o6 v) (G0.o7 v) (G0.K v) (G0.RS v) (G0.cc v) (G0.cd v) (G0.nk v) (G0.nr v) (G0.kvs v) (G0.rvs v) (G0.prs v) (G0.nums v) (G0.b v) (G0.dk v) (G0.wd v) (G0.tb v) (G0.td v) (G0.tw v)
def Q12 (v : VT) : Prop := P12 (G0.w v) (G0.p v) (G0.loose v) (G0.mean v) (G0.mg v) (G0.mb v) (G0.fa v) (G0.h₀ v) (G0.L v) (G0.hp v) (G0.gs v) (G0.dr v) (G0.tk0 v) (G0.os0 v) (G0.Q v) (G0.E v) (G0.rest v) (G0.u v) (G0.o1 v) (G0.o2 v) (G0.o3 v) (G0.o4 v) (G0.o5 v) (G0.o6 v) (G0.o7 v) (G0.K v) (G0.RS v) (G0.cc v) (G0.cd v) (G0.ce v) (G0.nk v) (G0.nr v) (G0.kvs v) (G0.rvs v) (G0.prs v) (G0.nums v) (G0.b v) (G0.dk v) (G0.wd v) (G0.tb v) (G0.td v) (G0.tw v)
def Q14 (v : VT) : Prop := P14 (G0.w v) (G0.p v) (G0.loose v) (G0.mean v) (G0.mg v) (G0.mb v) (G0.fa v) (G0.h₀ v) (G0.L v) (G0.hp v) (G0.gs v) (G0.dr v) (G0.tk0 v) (G0.os0 v) (G0.Q v) (G0.E v) (G0.rest v) (G0.u v) (G0.o1 v) (G0.o2 v) (G0.o3 v) (G0.o4 v) (G0.o5 v) (G0.o6 v) (G0.o7 v) (G0.K v) (G0.RS v) (G0.cc v) (G0.cd v) (G0.ce v) (G0.nk v) (G0.nr v) (G0.kvs v) (G0.rvs v) (G0.prs v) (G0.nums v) (G0.b v) (G0.dk v) (G0.wd v) (G0.tb v) (G0.td v) (G0.tw v) (G0.OR v) (G0.tp0 v)
def Q15 (v : VT) : Prop := P15 (G0.w v) (G0.p v) (G0.loose v) (G0.mean v) (G0.mg v) (G0.mb v) (G0.fa v) (G0.h₀ v) (G0.L v) (G0.hp v) (G0.gs v) (G0.dr v) (G0.tk0 v) (G0.os0 v) (G0.Q v) (G0.E v) (G0.rest v) (G0.u v) (G0.o1 v) (G0.o2 v) (G0.o3 v) (G0.o4 v) (G0.o5 v) (G0.o6 v) (G0.o7 v) (G0.K v) (G0.RS v) (G0.cc v) (G0.cd v) (G0.ce v) (G0.nk v) (G0.nr v) (G0.kvs v) (G0.rvs v) (G0.prs v) (G0.nums v) (G0.b v) (G0.dk v) (G0.wd v) (G0.tb v) (G0.td v) (G0.tw v) (G0.OR v) (G0.no v) (G0.ovs v) (G0.o3t v) (G0.o7t v) (G0.b3 v) (G0.b7 v) (G0.c3 v) (G0.c7 v) (G0.Wy v) (G0.tn v) (G0.ov v) (G0.dg v)
def Q17 (v : VT) : Prop := P17 (G0.w v) (G0.p v) (G0.loose v) (G0.mean v) (G0.mg v) (G0.mb v) (G0.fa v) (G0.h₀ v) (G0.L v) (G0.hp v) (G0.gs v) (G0.dr v) (G0.tk0 v) (G0.os0 v) (G0.Q v) (G0.E v) (G0.rest v) (G0.u v) (G0.o1 v) (G0.o2 v) (G0.o3 v) (G0.o4 v) (G0.o5 v) (G0.o6 v) (G0.o7 v) (G0.K v) (G0.RS v) (G0.cc v) (G0.cd v) (G0.ce v) (G0.nk v) (G0.nr v) (G0.kvs v) (G0.rvs v) (G0.prs v) (G0.nums v) (G0.b v) (G0.dk v) (G0.wd v) (G0.tb v) (G0.td v) (G0.tw v) (G0.OR v) (G0.no v) (G0.ovs v) (G0.o3t v) (G0.o7t v) (G0.b3 v) (G0.b7 v) (G0.c3 v) (G0.c7 v) (G0.Wy v) (G0.tn v) (G0.ov v) (G0.dg v) (G0.twy v)
def Q19 (v : VT) : Prop := P19 (G0.w v) (G0.p v) (G0.loose v) (G0.mean v) (G0.mg v) (G0.mb v) (G0.fa v) (G0.h₀ v) (G0.L v) (G0.hp v) (G0.gs v) (G0.dr v) (G0.tk0 v) (G0.os0 v) (G0.Q v) (G0.E v) (G0.rest v) (G0.u v) (G0.o1 v) (G0.o2 v) (G0.o3 v) (G0.o4 v) (G0.o5 v) (G0.o6 v) (G0.o7 v) (G0.K v) (G0.RS v) (G0.cc v) (G0.cd v) (G0.ce v) (G0.nk v) (G0.nr v) (G0.kvs v) (G0.rvs v) (G0.prs v) (G0.nums v) (G0.b v) (G0.dk v) (G0.wd v) (G0.tb v) (G0.td v) (G0.tw v) (G0.OR v) (G0.no v) (G0.ovs v) (G0.o3t v) (G0.o7t v) (G0.b3 v) (G0.b7 v) (G0.c3 v) (G0.c7 v) (G0.Wy v) (G0.tn v) (G0.ov v) (G0.dg v) (G0.twy v) (G0.tpy v) (G0.ttn v) (G0.tov v)
def Q20 (v : VT) : Prop := P20 (G0.w v) (G0.p v) (G0.loose v) (G0.mean v) (G0.mg v) (G0.mb v) (G0.fa v) (G0.h₀ v) (G0.L v) (G0.hp v) (G0.gs v) (G0.dr v) (G0.tk0 v) (G0.os0 v) (G0.Q v) (G0.E v) (G0.rest v) (G0.u v) (G0.o1 v) (G0.o2 v) (G0.o3 v) (G0.o4 v) (G0.o5 v) (G0.o6 v) (G0.o7 v) (G0.K v) (G0.RS v) (G0.cc v) (G0.cd v) (G0.ce v) (G0.nk v) (G0.nr v) (G0.kvs v) (G0.rvs v) (G0.prs v) (G0.nums v) (G0.b v) (G0.dk v) (G0.wd v) (G0.tb v) (G0.td v) (G0.tw v) (G0.OR v) (G0.no v) (G0.ovs v) (G0.o3t v) (G0.o7t v) (G0.b3 v) (G0.b7 v) (G0.c3 v) (G0.c7 v) (G0.Wy v) (G0.tn v) (G0.ov v) (G0.dg v) (G0.twy v) (G0.tpy v) (G0.ttn v) (G0.tov v)
def Q22 (v : VT) : Prop := P22 (G0.w v) (G0.p v) (G0.loose v) (G0.mean v) (G0.mg v) (G0.mb v) (G0.fa v) (G0.h₀ v) (G0.L v) (G0.hp v) (G0.gs v) (G0.dr v) (G0.tk0 v) (G0.os0 v) (G0.Q v) (G0.E v) (G0.rest v) (G0.u v) (G0.o1 v) (G0.o2 v) (G0.o3 v) (G0.o4 v) (G0.o5 v) (G0.o6 v) (G0.o7 v) (G0.K v) (G0.RS v) (G0.cc v) (G0.cd v) (G0.ce v) (G0.nk v) (G0.nr v) (G0.kvs v) (G0.rvs v) (G0.prs v) (G0.nums v) (G0.b v) (G0.dk v) (G0.wd v) (G0.tb v) (G0.td v) (G0.tw v) (G0.OR v) (G0.no v) (G0.ovs v) (G0.o3t v) (G0.o7t v) (G0.b3 v) (G0.b7 v) (G0.c3 v) (G0.c7 v) (G0.Wy v) (G0.tn v) (G0.ov v) (G0.dg v) (G0.twy v) (G0.tpy v) (G0.ttn v) (G0.tov v)
def Q23 (v : VT) : Prop := P23 (G0.w v) (G0.p v) (G0.loose v) (G0.mean v) (G0.mg v) (G0.mb v) (G0.fa v) (G0.h₀ v) (G0.L v) (G0.hp v) (G0.gs v) (G0.dr v) (G0.tk0 v) (G0.os0 v) (G0.Q v) (G0.E v) (G0.rest v) (G0.u v) (G0.o1 v) (G0.o2 v) (G0.o3 v) (G0.o4 v) (G0.o5 v) (G0.o6 v) (G0.o7 v) (G0.K v) (G0.RS v) (G0.cc v) (G0.cd v) (G0.ce v) (G0.nk v) (G0.nr v) (G0.kvs v) (G0.rvs v) (G0.prs v) (G0.nums v) (G0.b v) (G0.dk v) (G0.wd v) (G0.tb v) (G0.td v) (G0.tw v) (G0.OR v) (G0.no v) (G0.ovs v) (G0.o3t v) (G0.o7t v) (G0.b3 v) (G0.b7 v) (G0.c3 v) (G0.c7 v) (G0.Wy v) (G0.tn v) (G0.ov v) (G0.dg v) (G0.twy v) (G0.tpy v) (G0.ttn v) (G0.tov v)
def Q25 (v : VT) : Prop := P25 (G0.w v) (G0.p v) (G0.loose v) (G0.mean v) (G0.mg v) (G0.mb v) (G0.fa v) (G0.h₀ v) (G0.L v) (G0.hp v) (G0.gs v) (G0.dr v) (G0.tk0 v) (G0.os0 v) (G0.Q v) (G0.E v) (G0.rest v) (G0.u v) (G0.o1 v) (G0.o2 v) (G0.o3 v) (G0.o4 v) (G0.o5 v) (G0.o6 v) (G0.o7 v) (G0.K v) (G0.RS v) (G0.cc v) (G0.cd v) (G0.ce v) (G0.nk v) (G0.nr v) (G0.kvs v) (G0.rvs v) (G0.prs v) (G0.nums v) (G0.b v) (G0.dk v) (G0.wd v) (G0.tb v) (G0.td v) (G0.tw v) (G0.OR v) (G0.no v) (G0.ovs v) (G0.o3t v) (G0.o7t v) (G0.b3 v) (G0.b7 v) (G0.c3 v) (G0.c7 v) (G0.Wy v) (G0.tn v) (G0.ov v) (G0.dg v) (G0.twy v) (G0.tpy v) (G0.ttn v) (G0.tov v) (G0.DG v) (G0.nd v) (G0.dvs v)
def Q27 (v : VT) : Prop := P27 (G0.w v) (G0.p v) (G0.loose v) (G0.mean v) (G0.mg v) (G0.mb v) (G0.fa v) (G0.h₀ v) (G0.L v) (G0.hp v) (G0.gs v) (G0.dr v) (G0.tk0 v) (G0.os0 v) (G0.Q v) (G0.E v) (G0.rest v) (G0.u v) (G0.o1 v) (G0.o2 v) (G0.o3 v) (G0.o4 v) (G0.o5 v) (G0.o6 v) (G0.o7 v) (G0.K v) (G0.RS v) (G0.cc v) (G0.cd v) (G0.ce v) (G0.nk v) (G0.nr v) (G0.kvs v) (G0.rvs v) (G0.prs v) (G0.nums v) (G0.b v) (G0.dk v) (G0.wd v) (G0.tb v) (G0.td v) (G0.tw v) (G0.OR v) (G0.no v) (G0.ovs v) (G0.o3t v) (G0.o7t v) (G0.b3 v) (G0.b7 v) (G0.c3 v) (G0.c7 v) (G0.Wy v) (G0.tn v) (G0.ov v) (G0.dg v) (G0.twy v) (G0.tpy v) (G0.ttn v) (G0.tov v) (G0.DG v) (G0.nd v) (G0.dvs v) (G0.RW v) (G0.TL v) (G0.nw v) (G0.nt v) (G0.row v) (G0.tvs v)
def VP (v : VT) : Prop := Q0 v ∧ Q5 v ∧ Q7 v ∧ Q10 v ∧ Q11 v ∧ Q12 v ∧ Q14 v ∧ Q15 v ∧ Q17 v ∧ Q19 v ∧ Q20 v ∧ Q22 v ∧ Q23 v ∧ Q25 v ∧ Q27 v
theorem ne_VT : Nonempty VT := ⟨((⟨fun _ _ => 0, { strHash := fun _ => 0, shareClass := fun _ => 0, mergeTok := id, idOf := fun _ => 0, idOfShared := fun _ _ => 0, followText := fun _ => false, idOfImm := fun _ => 0 }⟩ : World), (default : Program), ([] : List Str), (fun _  => none), (fun _  => none), (fun _  => none), (0 : Addr), ({} : Heap), (0 : Addr), ({} : Heap), (#[] : Array GenState), ({} : Drawn), (0 : Nat), ({} : OsState), (fun _ _  => True), (fun _ _  => True), ([] : List Stmt), (fun _  => none), (⟨.none, none, .plain, #[]⟩ : Obj), (⟨.none, none, .plain, #[]⟩ : Obj), (⟨.none, none, .plain, #[]⟩ : Obj), (⟨.none, none, .plain, #[]⟩ : Obj), (⟨.none, none, .plain, #[]⟩ : Obj), (⟨.none, none, .plain, #[]⟩ : Obj), (⟨.none, none, .plain, #[]⟩ : Obj), (0 : Addr), ([] : List Value), ([] : List Int), (0 : Addr), (0 : Addr), ([] : List Value), ([] : List Int), (0 : Int), (0 : Int), (0 : Int), (0 : Tok), (0 : Tok), (0 : Tok), (0 : Addr), (0 : Addr), (0 : Nat), (0 : Addr), (0 : Nat), ([] : List Value), ([] : List Int), (0 : Addr), (0 : Addr), (0 : Nat), ([] : List Value), ([] : List Value), ([] : List (Addr × Obj)), (0 : Addr), (0 : Addr), (0 : Tok), (0 : Nat), ([] : List Value), (⟨.none, none, .plain, #[]⟩ : Obj), (⟨.none, none, .plain, #[]⟩ : Obj), (⟨.none, none, .plain, #[]⟩ : Obj), (⟨.none, none, .plain, #[]⟩ : Obj), (0 : Addr), (0 : Addr), (fun _  => 0), (0 : Int), (0 : Int), ([] : List Int), (0 : Tok), (0 : Tok), (0 : Tok), (0 : Tok), (0 : Addr), (0 : Nat), ([] : List Value), (0 : Addr), (0 : Addr), (0 : Nat), (0 : Nat), ([] : List Value), ([] : List Value))⟩
noncomputable def kv : {v : VT // VP v → ∀ x, VP x} := Classical.choice (drink ne_VT VP)
noncomputable def K0.w : World := G0.w kv.1
noncomputable def K0.p : Program := G0.p kv.1
noncomputable def K0.loose : List Str := G0.loose kv.1
noncomputable def K0.mean : ExcName → Option Value := G0.mean kv.1
noncomputable def K0.mg : Str → Option Value := G0.mg kv.1
noncomputable def K0.mb : Str → Option Value := G0.mb kv.1
noncomputable def K0.fa : Addr := G0.fa kv.1
noncomputable def K0.h₀ : Heap := G0.h₀ kv.1
noncomputable def K0.L : Addr := G0.L kv.1
noncomputable def K0.hp : Heap := G0.hp kv.1
noncomputable def K0.gs : Array GenState := G0.gs kv.1
noncomputable def K0.dr : Drawn := G0.dr kv.1
noncomputable def K0.tk0 : Nat := G0.tk0 kv.1
noncomputable def K0.os0 : OsState := G0.os0 kv.1
noncomputable def K0.Q : Flow → Shared → Prop := G0.Q kv.1
noncomputable def K0.E : Value → Shared → Prop := G0.E kv.1
noncomputable def K0.rest : List Stmt := G0.rest kv.1
noncomputable def K0.u : Str → Option Value := G0.u kv.1
noncomputable def K0.o1 : Obj := G0.o1 kv.1
noncomputable def K0.o2 : Obj := G0.o2 kv.1
noncomputable def K0.o3 : Obj := G0.o3 kv.1
noncomputable def K0.o4 : Obj := G0.o4 kv.1
noncomputable def K0.o5 : Obj := G0.o5 kv.1
noncomputable def K0.o6 : Obj := G0.o6 kv.1
noncomputable def K0.o7 : Obj := G0.o7 kv.1
noncomputable def K0.sl : Addr := G0.sl kv.1
noncomputable def K0.vs : List Value := G0.vs kv.1
noncomputable def K0.ns : List Int := G0.ns kv.1
noncomputable def K0.S : Addr := G0.S kv.1
noncomputable def K0.D : Addr := G0.D kv.1
noncomputable def K0.ys : List Value := G0.ys kv.1
noncomputable def K0.cs : List Int := G0.cs kv.1
noncomputable def K0.b : Int := G0.b kv.1
noncomputable def K0.dk : Int := G0.dk kv.1
noncomputable def K0.wd : Int := G0.wd kv.1
noncomputable def K0.tb : Tok := G0.tb kv.1
noncomputable def K0.td : Tok := G0.td kv.1
noncomputable def K0.tw : Tok := G0.tw kv.1
noncomputable def K0.cc : Addr := G0.cc kv.1
noncomputable def K0.cd : Addr := G0.cd kv.1
noncomputable def K0.n : Nat := G0.n kv.1
noncomputable def K0.NM : Addr := G0.NM kv.1
noncomputable def K0.nk : Nat := G0.nk kv.1
noncomputable def K0.nvs : List Value := G0.nvs kv.1
noncomputable def K0.nums : List Int := G0.nums kv.1
noncomputable def K0.K : Addr := G0.K kv.1
noncomputable def K0.RS : Addr := G0.RS kv.1
noncomputable def K0.nr : Nat := G0.nr kv.1
noncomputable def K0.kvs : List Value := G0.kvs kv.1
noncomputable def K0.rvs : List Value := G0.rvs kv.1
noncomputable def K0.prs : List (Addr × Obj) := G0.prs kv.1
noncomputable def K0.ce : Addr := G0.ce kv.1
noncomputable def K0.OR : Addr := G0.OR kv.1
noncomputable def K0.tp0 : Tok := G0.tp0 kv.1
noncomputable def K0.no : Nat := G0.no kv.1
noncomputable def K0.ovs : List Value := G0.ovs kv.1
noncomputable def K0.o3t : Obj := G0.o3t kv.1
noncomputable def K0.o7t : Obj := G0.o7t kv.1
noncomputable def K0.b3 : Obj := G0.b3 kv.1
noncomputable def K0.b7 : Obj := G0.b7 kv.1
noncomputable def K0.c3 : Addr := G0.c3 kv.1
noncomputable def K0.c7 : Addr := G0.c7 kv.1
noncomputable def K0.Wy : Nat → Int := G0.Wy kv.1
noncomputable def K0.tn : Int := G0.tn kv.1
noncomputable def K0.ov : Int := G0.ov kv.1
noncomputable def K0.dg : List Int := G0.dg kv.1
noncomputable def K0.twy : Tok := G0.twy kv.1
noncomputable def K0.tpy : Tok := G0.tpy kv.1
noncomputable def K0.ttn : Tok := G0.ttn kv.1
noncomputable def K0.tov : Tok := G0.tov kv.1
noncomputable def K0.DG : Addr := G0.DG kv.1
noncomputable def K0.nd : Nat := G0.nd kv.1
noncomputable def K0.dvs : List Value := G0.dvs kv.1
noncomputable def K0.RW : Addr := G0.RW kv.1
noncomputable def K0.TL : Addr := G0.TL kv.1
noncomputable def K0.nw : Nat := G0.nw kv.1
noncomputable def K0.nt : Nat := G0.nt kv.1
noncomputable def K0.row : List Value := G0.row kv.1
noncomputable def K0.tvs : List Value := G0.tvs kv.1
end
-- LP27
theorem again_LP27 : True := by w_top off; (try walk1); trivial
section
section
open K0
section
set_option maxHeartbeats 8000000 in
theorem lay_25 : True := by
  k_with "on:iter" => (fail_if_success (have z9 := off_LP27))
  k_with "my:all0" => ((fail_if_success (have z9 := off_LP27)); ((repeat (refine List.forall_mem_cons.mpr ⟨by k_mem, ?_⟩)); exact fun q hq => absurd hq List.not_mem_nil))
  k_with "my:all" => ((repeat (refine List.forall_mem_cons.mpr ⟨by k_mem, ?_⟩)); walk_at "my:tl")
  k_with "my:tl" => (intro q9 hq9; repeat (first | exact hq9 | apply List.mem_cons_of_mem))
  k_with "call ref" => ((fail_if_success (have z9 := off_LP27)); (k_here; (with_reducible show wpAny _ _ (call (Value.ref 92) _ _) _ _ _); refine stop_here ?_))
  k_with "call ref" => ((fail_if_success (have z9 := off_LP27)); (k_here; (with_reducible show wpAny _ _ (call (Value.ref 74) _ _) _ _ _); refine stop_here ?_))
  k_with "call ref" => ((fail_if_success (have z9 := off_LP27)); (k_here; (with_reducible show wpAny _ _ (call (Value.ref 176) _ _) _ _ _); refine stop_here ?_))
  k_with "call ref" => ((fail_if_success (have z9 := off_LP27)); (k_here; (with_reducible show wpAny _ _ (call (Value.ref 127) _ _) _ _ _); refine stop_here ?_))
  k_with "my:ps" => (repeat' (first | exact List.forall_mem_nil _ | exact rfl | refine' List.forall_mem_cons.mpr ⟨?_, ?_⟩))
  k_with "call type:range" => ((fail_if_success (have z9 := off_LP27)); (k_here; (first | refine range_F1 (by k_asm) (by k_asm) ?_ | refine range_F2 (by k_asm) (by k_asm) ?_); intro _ _ _ _ _ _ _ _ _ _; (try dsimp only)))
  k_with "execs cons" => ((fail_if_success (have z9 := off_LP27)); (refine stop_here ?_))
  k_with "subscriptTail Name Slice ref ref" => ((fail_if_success (have z9 := off_LP27)); (refine stop_here ?_))
  k_with "subscriptTail Name Name ref int" => ((fail_if_success (have z9 := off_LP27)); (refine stop_here ?_))
  k_with "eval ListComp" => ((fail_if_success (have z9 := off_LP27)); (refine stop_here ?_))
  k_with "CompT" => ((fail_if_success (have z9 := off_LP27)); (refine stop_here ?_))
  k_with "compareOp NotEq ref ref" => ((fail_if_success (have z9 := off_LP27)); (refine stop_here ?_))
  trivial
theorem c_p27 : P27 w p loose mean mg mb fa h₀ L hp gs dr tk0 os0 Q E rest u o1 o2 o3 o4 o5 o6 o7 K RS cc cd ce nk nr kvs rvs prs nums b dk wd tb td tw OR no ovs o3t o7t b3 b7 c3 c7 Wy tn ov dg twy tpy ttn tov DG nd dvs RW TL nw nt row tvs := by
  unfold P27 LawRun LawOwn
  dsimp only [lawBody, lawScope, hd.o_277, hdS, List.tail_cons]
  k_fill
  intro B X T ch41 ch34 ch236 hE l37 l30 l234 F N d2 d6 hb0 hb1 hk0 hk1 hw0 hw1 lK lRS hpr hNO hK hR lOR hprO hov G hdv lDG g3 g7 lRW lTL lWT hrow hrt htv SV hnext
  dsimp only [kstB] at F
  have hrl := hR.length
  rw [rests_length] at hrl
  have hr20 := (rings_facts hb0 hb1 hk0 hk1).2.1
  have hrsort := rests_sorted b dk nums (ringsOf b dk)
  have hrkl := hrow.length
  rw [List.length_map, rests_length] at hrkl
  have hodp := orders_pos hb0 hb1 hk0 hk1
  have hodl := orders_len b dk
  have hovl := hov.length
  have hov2 := hov
  have hdgl : dg.length = b.toNat := by rw [← G.dd]; exact digs_length _ _ _
  have hdvl := hdv.length
  have htvl := htv.length
  rw [tally_len, List.length_replicate] at htvl
  have hr2 := rings_two hb0 hb1 hk0 hk1
  have hrr := row_range b dk nums (by omega) (ringsOf b dk)
  refine wpAny_execs_cons ?_
  refine For_T ?_ (fun _ => rfl) hE
  k_steps
  refine Stop.go ?_
  rename Fr _ _ _ _ => FA
  rename News _ _ _ _ => NA
  rename (@LE.le Nat _ _ _) => leA
  (try dsimp only at leA)
  have hbn : Builtin.Range.rangeSize 0 b 1 = ((b.toNat : Nat) : Int) := by rw [rangeSize_one]; split <;> omega
  refine' loop_rangeT (σ := Obj) b.toNat (fun c => (TL, W.listOf tvs.toArray nt) :: (RW, W.listOf row.toArray nw) :: (30, o3t) :: (37, o7t) :: (DG, W.listOf dvs.toArray nd) :: (OR, W.listOf ovs.toArray no) :: (K, W.listOf kvs.toArray nk) :: (RS, W.listOf rvs.toArray nr) :: (L + 1 + 1 + 1 + 1 + 1 + 1 + 1, o7) :: (L + 1 + 1 + 1 + 1 + 1 + 1, c) :: (L + 1 + 1 + 1 + 1 + 1, o5) :: (L + 1 + 1 + 1 + 1, o4) :: (L + 1 + 1 + 1, o3) :: (L + 1 + 1, o2) :: (L + 1, o1) :: (234, tabObj #[rawInt 201, rawInt 41, .ref cc, rawInt 203, rawInt 41, .ref cd, rawInt 214, rawInt 60, .ref ce]) :: prs) (fun _ => [(Str.ofString "rests", .ref RS), (Str.ofString "orders", .ref OR), (Str.ofString "digits", .ref DG), (Str.ofString "row", .ref RW), (Str.ofString "tally", .ref TL)]) [Str.ofString "begin", Str.ofString "end"] (fun _ c tk => @LE.le Nat _ tk0 tk ∧ ∃ ov, c.data = .cell ov) o6 rfl (by assumption) (small_one (by omega) (by omega) (by omega) (by omega)) hbn FA NA ?hk ⟨leA, _, d6⟩ ?turn ?done
  (case hk => walk_at "my:ps")
  (case turn =>
    rintro I hI i c t m it h hin ⟨hfl, ov, hov⟩ F8 hkm hrm N8 off8
    rw [Int.zero_add]
    (try dsimp only at F8 N8 off8 ⊢)
    have F8 := fr_k F8 _ hkm
    dsimp only [kstB] at F8
    have hpI : ∀ p ∈ prs, p.1 ≠ I := fun p hp => off8 p (by repeat (first | exact hp | apply List.mem_cons_of_mem))
    have hp6 : ∀ p ∈ prs, p.1 ≠ L + 1 + 1 + 1 + 1 + 1 + 1 := fun p hp => by have := hpr p hp; exact Nat.ne_of_gt (by omega)
    k_lt hI
    k_steps
    rename_i hR6 o6n FR6 NR6 d6n
    refine Stop.go ?_
    refine wpAny_execs_cons (wpAny_toksE ?_)
    k_steps
    refine Stop.go ?_
    k_dflt (refine' Spec.useI (bl_row w p loose mean mg mb _ RW row _ nw ?hmA hrow (by rw [List.length_map, rests_length]; omega) hrsort _ _) ?k1A ?k2A ?k3A ?k4A ?k5A ?kKA ?kdA ?kuA ?_)
    (case k1A => k_asm); (case k2A => k_asm); (case k3A => k_asm); (case k4A => k_asm); (case k5A => k_asm)
    (case kKA => exact rfl)
    (case kdA => ktr_room)
    (case kuA => ktr_units)
    (case hmA => k_mem)
    intro ta ha tka Fa Na
    (try dsimp only)
    k_steps
    refine Stop.go ?_
    k_dflt (refine' Spec.useI (br_row w p loose mean mg mb _ RW row _ nw ?hmB hrow (by rw [List.length_map, rests_length]; omega) hrsort _ _) ?k1B ?k2B ?k3B ?k4B ?k5B ?kKB ?kdB ?kuB ?_)
    (case k1B => k_asm); (case k2B => k_asm); (case k3B => k_asm); (case k4B => k_asm); (case k5B => k_asm)
    (case kKB => exact rfl)
    (case kdB => ktr_room)
    (case kuB => ktr_units)
    (case hmB => k_mem)
    intro tbb hbb tkb Fb Nb
    (try dsimp only)
    k_steps
    refine Stop.go ?_
    rename (@LE.le Nat _ _ _) => hl1
    (try dsimp only at hl1 ⊢)
    refine wpAny_execs_cons (wpAny_toksE ?_)
    k_steps
    refine Stop.go ?_
    k_dflt (refine' Spec.useI (bl_rests w p loose mean mg mb _ RS rvs _ nr _ (hR.mono ?hlC fun _ h => h) ?hmC (by rw [rests_length]; omega) hrsort _ _) ?k1C ?k2C ?k3C ?k4C ?k5C ?kKC ?kdC ?kuC ?_)
    (case k1C => k_asm); (case k2C => k_asm); (case k3C => k_asm); (case k4C => k_asm); (case k5C => k_asm)
    (case kKC => exact rfl)
    (case kdC => ktr_room)
    (case kuC => ktr_units)
    (case hlC => walk_at "my:tl")
    (case hmC => k_mem)
    intro tcc hcc tkc Fc Nc
    (try dsimp only)
    k_steps
    refine Stop.go ?_
    k_dflt (refine' Spec.useI (br_rests w p loose mean mg mb _ RS rvs _ nr _ (hR.mono ?hlD fun _ h => h) ?hmD (by rw [rests_length]; omega) hrsort _ _) ?k1D ?k2D ?k3D ?k4D ?k5D ?kKD ?kdD ?kuD ?_)
    (case k1D => k_asm); (case k2D => k_asm); (case k3D => k_asm); (case k4D => k_asm); (case k5D => k_asm)
    (case kKD => exact rfl)
    (case kdD => ktr_room)
    (case kuD => ktr_units)
    (case hlD => walk_at "my:tl")
    (case hmD => k_mem)
    intro tdd hdd tkd Fd Nd
    (try dsimp only)
    k_steps
    refine Stop.go ?_
    rename News _ _ _ _ => NP
    refine ne_ints (NP (_, _) (by k_mem)).1 (NP _ (.head _)).1 (IntsAre.cons _ _ (IntsAre.cons _ _ IntsAre.nil)) (IntsAre.cons _ _ (IntsAre.cons _ _ IntsAre.nil)) (by ktr_units) ?_
    k_steps
    refine Stop.go ?_
    rename (@LE.le Nat _ _ _) => hl2
    (try dsimp only at hl2 ⊢)
    refine wpAny_execs_cons (wpAny_toksE ?_)
    k_steps
    refine Stop.go ?_
    have hslice : IntsAre (slicePick row.toArray (some (lowC ((restsOf b dk nums (ringsOf b dk)).map (·.2)) (i : Int))) (some (upC ((restsOf b dk nums (ringsOf b dk)).map (·.2)) (i : Int))) none).toList (List.replicate (eqC ((restsOf b dk nums (ringsOf b dk)).map (·.2)) (i : Int)).toNat (i : Int)) := by
      rw [← slice_is _ _ hrsort]; exact hrow.pick _ _ none
    k_dflt (refine' kmk_slice_ints ?Fs ?Ns ?ls (.int _ _) (.int _ _) hrow hslice rfl ?_ ?ss ?ts ?zs)
    (case Fs => k_asm)
    (case Ns => k_asm)
    (case ls => kmk_list)
    (case ss => with_unfolding_all rfl)
    (case ts => kmk_pure)
    (case zs => rw [List.size_toArray, sizeLine_eq]; omega)
    intro DS ws hs2 Fs Ns lS hws hwc hwl
    (try dsimp only at Fs Ns lS ⊢)
    k_lt lS
    k_steps
    refine Stop.go ?_
    obtain ⟨ec, hec⟩ : ∃ ec : Int, ec = eqC ((restsOf b dk nums (ringsOf b dk)).map (·.2)) (i : Int) := ⟨_, rfl⟩
    have hec1 := eqC_le ((restsOf b dk nums (ringsOf b dk)).map (·.2)) (i : Int)
    rw [← hec, List.length_map, rests_length] at hec1
    rw [← hec] at hws
    have hec0 := hec1.1
    have hec2 : ec ≤ 20 := by omega
    have htk0 : 0 < tk0 := tok_pos hrt hrow (by rw [List.length_map, rests_length]; omega)
    k_dflt (refine' Spec.useI (cof_row w p loose mean mg mb _ RW row _ nw ?hmE hrow (i : Int) t (by omega) (by omega) (Nat.ne_of_gt (Nat.lt_of_lt_of_le htk0 hfl)) (fun k t' hm' => ⟨Nat.ne_of_gt (hrt k t' hm').1, fun _ => Nat.ne_of_lt (Nat.lt_of_lt_of_le (hrt k t' hm').2 hfl)⟩) ec hec) ?k1E ?k2E ?k3E ?k4E ?k5E ?kKE ?kdE ?kuE ?_)
    (case k1E => k_asm); (case k2E => k_asm); (case k3E => k_asm); (case k4E => k_asm); (case k5E => k_asm)
    (case kKE => exact rfl)
    (case kdE => ktr_room)
    (case kuE => ktr_units)
    (case hmE => k_mem)
    intro tee hee tke Fe Ne
    (try dsimp only)
    k_steps
    refine Stop.go ?_
    rename News _ _ _ _ => NM
    refine ne_ints (NM (_, _) (by k_mem)).1 (NM _ (.head _)).1 hws (ints_flat _ _ _) (by ktr_units) ?_
    k_steps
    refine Stop.go ?_
    rename (@LE.le Nat _ _ _) => hl3
    (try dsimp only at hl3 ⊢)
    refine wpAny_execs_cons (wpAny_toksE ?_)
    k_steps
    refine Stop.go ?_
    have hib : (i : Int) < b := by omega
    have hul : upC ((restsOf b dk nums (ringsOf b dk)).map (·.2)) (i : Int) - lowC ((restsOf b dk nums (ringsOf b dk)).map (·.2)) (i : Int) = ec := by have := low_up ((restsOf b dk nums (ringsOf b dk)).map (·.2)) (i : Int); omega
    obtain ⟨tg, hg⟩ := intsare_getD hdv i (by omega)
    rw [SV.c1 i hib, ← hec] at hg
    refine sub_at (by k_asm) (by k_mem) (by omega) (by omega) (by omega) ?_
    rw [Int.toNat_natCast, hg]
    k_steps
    refine Stop.go ?_
    refine ListComp_T (by k_asm) (by with_unfolding_all rfl) (by decide) (by rfl) (by decide) (by rfl) ?_
    k_steps
    refine Stop.go ?_
    rename News _ _ _ _ => NC
    rename Fr _ _ _ _ => FC
    refine' ⟨OR, W.listOf ovs.toArray no, ovs, no, _, rfl, rfl, FC, NC, ?hmO, rfl, rfl, by rw [sizeLine_eq]; show ovs.length ≤ _; omega, fun rest ys tk => ModW (i : Int) (ordersOf b dk) rest ys tk, ?p0, ?mono, ?turn2, ?fin2⟩
    (case hmO => k_mem)
    (case p0 => exact ⟨⟨[], _, rfl, hov2, IntsAre.nil⟩, fun k t h => absurd h List.not_mem_nil⟩)
    (case mono => exact fun r ys a b hab h => ⟨h.one, fun k t hm => ⟨(h.two k t hm).1, Nat.lt_of_lt_of_le (h.two k t hm).2 hab⟩⟩)
    (case turn2 =>
      rintro v r ys I2 oI2 C2 oC2 D2 m₂ h8 tk8 E8 ⟨⟨don, rr, hdr, hir, hys⟩, htk⟩ hns hx F7 N7 off ne
      obtain ⟨o, to, rr', rfl, rfl, hir'⟩ := intsare_cons hir
      have hoz := SV.oz o (by rw [← hdr]; exact List.mem_append_right _ (.head _))
      (try dsimp only at F7 N7 ⊢)
      k_steps
      refine Stop.go ?_
      k_dflt (refine' spec_modT w p loose mean mg mb _ _ o _ _ hoz _ _ _ _ _ _ _ _ _ _ _ _ _ _ _ _ _ ?k1M ?k2M ?k3M ?k4M ?k5M ?kKM ?kdM ?kuM ?_)
      (case k1M => k_asm); (case k2M => k_asm); (case k3M => k_asm); (case k4M => k_asm); (case k5M => k_asm)
      (case kKM => exact rfl)
      (case kdM => ktr_room)
      (case kuM => ktr_units)
      intro tm hm tkm lm1 lm2 Fm Nm
      (try dsimp only at lm1 lm2 ⊢)
      k_steps
      refine CEnd.mk (by k_asm) (by k_asm) (fun _ h => h) ⟨⟨don ++ [o], rr', by rw [List.append_assoc]; exact hdr, hir', by rw [List.map_append]; exact hys.append (IntsAre.cons _ _ IntsAre.nil)⟩, fun k t' hm' => ?_⟩
      rcases List.mem_append.mp hm' with hm' | hm'
      · have := htk k t' hm'
        exact ⟨this.1, by omega⟩
      · cases List.mem_singleton.mp hm'
        exact ⟨by omega, lm2⟩)
    (case fin2 =>
      rintro D2 ys h8 tk8 ⟨⟨don, rr, hdr, hir, hys⟩, htk⟩ F7 N7 l7
      have hrr0 : rr = [] := by cases hir; rfl
      subst hrr0
      rw [List.append_nil] at hdr
      subst hdr
      (try dsimp only at F7 N7 l7 ⊢)
      k_lt l7
      have ht8 : 0 < tk8 := tok_pos htk hys (by rw [List.length_map]; exact hodp)
      k_steps
      refine Stop.go ?_
      k_dflt (refine' Spec.useI (cof_row w p loose mean mg mb _ D2 ys _ _ ?hmF hys 0 tk8 (by omega) (by omega) (Nat.ne_of_gt ht8) (fun k t' hm' => ⟨Nat.ne_of_gt (htk k t' hm').1, fun _ => Nat.ne_of_lt (htk k t' hm').2⟩) ec (by rw [SV.c2 i hib]; exact hec)) ?k1F ?k2F ?k3F ?k4F ?k5F ?kKF ?kdF ?kuF ?_)
      (case k1F => k_asm); (case k2F => k_asm); (case k3F => k_asm); (case k4F => k_asm); (case k5F => k_asm)
      (case kKF => exact rfl)
      (case kdF => ktr_room)
      (case kuF => ktr_units)
      (case hmF => exact List.Mem.head _)
      intro tff hff tkf Ff Nf
      (try dsimp only)
      k_steps
      refine Stop.go ?_
      obtain ⟨tu, hu⟩ := intsare_getD htv i (by rw [tally_len, List.length_replicate]; omega)
      rw [tally_is _ b.toNat i hrr (by omega), ← hec] at hu
      refine sub_at (by k_asm) (by k_mem) (by omega) (by omega) (by omega) ?_
      rw [Int.toNat_natCast, hu]
      k_steps
      refine Stop.go ?_
      rename News _ _ _ _ => NQ
      simp only [hul] at NQ
      refine ne_ints (NQ (_, _) (by k_mem)).1 (NQ _ (.head _)).1 (IntsAre.cons ec _ (IntsAre.cons ec _ (IntsAre.cons ec _ IntsAre.nil))) (ints_flat ec _ 3) (by ktr_units) ?_
      k_steps
      rename (@LE.le Nat _ _ _) => hl4
      (try dsimp only at hl4)
      dsimp only [LPostT, LEndT]
      refine' ⟨o6n, _, _, _, _, rfl, ?kF, ?kN, ?hn, ?ho, ?hk2, ?hr, ⟨?pp, _, d6n⟩⟩
      (case kF => k_asm)
      (case kN => k_asm)
      (case hn => (try dsimp only); walk_at "my:all")
      (case ho => (try dsimp only); (repeat (refine List.forall_mem_cons.mpr ⟨by k_ne, ?_⟩)); exact hpI)
      (case hk2 => walk_at "my:ps")
      (case hr =>
        intro z e1 e2
        refine Eq.trans ?_ (hrm z e1 e2)
        simp only [List.forall_mem_cons, List.not_mem_nil, false_implies, implies_true, and_true, ne_eq] at e1
        simp only [List.contains_cons, List.contains_nil, Bool.or_false, Bool.or_eq_false_iff, beq_eq_false_iff_ne, ne_eq] at e2
        simp only [e1, e2, if_false])
      (case pp => omega)))
  (case done =>
    intro c m h tk hP F8 hkm hrm N8
    (try dsimp only)
    refine hnext _ _ m o3t o7t cc cd ce (by dsimp only [kstB]; exact F8) (cb_drop N8 ?hnE) g3 g7
    walk_at "my:all0")
end
end
end
theorem off_LP27 : True := trivial
theorem off_lia : True := trivial
-- LP7
theorem again_LP7 : True := by w_top off; (try walk1); trivial
section
section
open K0
section
theorem lay_26 : True := by
  k_with "exec For Name Name cons nil" => ((fail_if_success (have z9 := off_LP7)); (k_here; (rename Fr _ _ _ _ => zlF); (with_unfolding_all refine' For_invVF zlF (by exact rfl) (by exact rfl) ?_; k_whole)))
  k_with "exec For Name Call cons nil" => ((fail_if_success (have z9 := off_LP7)); (k_here; (rename Fr _ _ _ _ => zlF); (with_unfolding_all refine' For_invVF zlF (by exact rfl) (by exact rfl) ?_; k_whole)))
  k_with "call type:range" => ((fail_if_success (have z9 := off_LP7)); (k_here; (first | refine range_F1 (by k_asm) (by k_asm) ?_ | refine range_F2 (by k_asm) (by k_asm) ?_); intro _ _ _ _ _ _ _ _ _ _; (try dsimp only)))
  k_with "exec Assign cons ListComp" => ((fail_if_success (have z9 := off_LP7)); (refine stop_here ?_))
  k_with "CompR" => ((fail_if_success (have z9 := off_LP7)); (refine stop_here ?_))
  k_with "call builtin:list.index" => ((fail_if_success (have z9 := off_LP7)); (refine stop_here ?_))
  trivial
theorem c_p7 : P7 w p loose mean mg mb fa h₀ L hp gs dr tk0 os0 Q E rest u o1 o2 o3 o4 o5 o6 o7 S D cc cd n ys vs cs b dk wd tb td tw := by
  unfold P7 LawRun LawOwn
  dsimp only [lawBody, lawScope, hd.o_277, hdS, List.tail_cons]
  k_fill
  intro B X T ch41 ch34 ch236 hE l37 l30 l234 F N d2 d3 d4 d5 d6 d7 hcs hcl lD lS hb0 hb1 hk0 hk1 hw0 hw1 hvs hnext
  dsimp only [kstB] at F
  k_steps
  refine Stop.go ?_
  refine wpAny_Assign_Name ?_ (by with_unfolding_all rfl)
  refine ListComp_R F (by with_unfolding_all rfl) (by decide) (by rfl) (by decide) (by rfl) ?_
  k_steps
  refine Stop.go ?_
  rename News _ _ _ _ => NA
  rename Fr _ _ _ _ => FA
  have hbn : Builtin.Range.rangeSize 0 b 1 = ((b.toNat : Nat) : Int) := by rw [rangeSize_one]; split <;> omega
  have hvl := hvs.length
  rw [spots_length] at hvl
  refine' ⟨_, _, _, _, _, _, b.toNat, _, rfl, rfl, FA, NA, by assumption, small_one (by omega) (by omega) (by omega) (by omega), hbn, by rw [sizeLine_eq]; omega,
    fun i ys => IntsAre ys ((List.range i).map (numF b (fun e => List.getD cs (Int.toNat (2 + e)) 0))), IntsAre.nil, ?_, ?_⟩
  · intro i t ys8 I oI C oC Dn m₂ h8 tk8 E8 hi hP hns hx F8 N8 off ne
    dsimp only at F8 N8 ⊢
    have hsp := spots_has (fun e => List.getD cs (Int.toNat (2 + e)) 0) hi
    k_steps
    refine Stop.go ?_
    rw [Int.zero_add]
    refine index_ints (by k_asm) (by k_mem) hvs hsp (by omega) ?_
    k_steps
    rw [Int.zero_add]
    refine CEnd.mk (by k_asm) (by k_asm) (fun _ h => h) ?_
    rw [List.range_succ, List.map_append]
    exact hP.append (IntsAre.cons _ _ IntsAre.nil)
  · intro Dn ys8 h8 tk8 k8 hP F8 N8 l8
    dsimp only at F8 N8 ⊢
    k_lt l8
    k_steps
    refine' hnext _ _ _ o1 o2 o3 _ o5 o6 o7 Dn cc cd _ ys8 _ b dk wd tb td tw (fr_k (by k_asm) _ ?hf) (cb_drop (by k_asm) ?hn) d2 d5 d6 hb0 hb1 hk0 hk1 hw0 hw1 ?h4 ?hl hP (nums_ok _ _)
    (case hf => walk_at "my:ps")
    (case hn => (try dsimp only); kcj_all)
    (case h4 => assumption)
    (case hl => omega)
end
end
end
theorem off_LP7 : True := trivial
-- LP10
theorem again_LP10 : True := by w_top off; (try walk1); trivial
section
section
open K0
section
theorem lay_27 : True := by
  k_with "on:iter" => (fail_if_success (have z9 := off_LP10))
  k_with "call type:range" => ((fail_if_success (have z9 := off_LP10)); (k_here; (first | refine range_F1 (by k_asm) (by k_asm) ?_ | refine range_F2 (by k_asm) (by k_asm) ?_); intro _ _ _ _ _ _ _ _ _ _; (try dsimp only)))
  k_with "call ref" => ((fail_if_success (have z9 := off_LP10)); (k_here; (with_reducible show wpAny _ _ (call (Value.ref 211) _ _) _ _ _); k_dflt (refine' Spec.useL (spec_rings _ _ _ _ _ _ _ _ _ _ _ (by assumption) (by assumption) (by assumption) (by omega) _ (Nat.le_trans (And.left (And.right (by assumption))) (by decide)) (And.left (by assumption))) (by k_asm) (by k_asm) (by k_asm) (by k_asm) (by k_asm) (by first | exact rfl | assumption) (by ktr_room) (by ktr_units) ?_); refine stop_here ?_))
  k_with "call ref" => ((fail_if_success (have z9 := off_LP10)); (k_here; (with_reducible show wpAny _ _ (call (Value.ref 218) _ _) _ _ _); k_dflt (refine' Spec.useI (spec_least _ _ _ _ _ _ _ _ _ _ _ (by assumption) (by assumption) (by assumption)) (by k_asm) (by k_asm) (by k_asm) (by k_asm) (by k_asm) (by first | exact rfl | assumption) (by ktr_room) (by ktr_units) ?_); refine stop_here ?_))
  k_with "call ref" => ((fail_if_success (have z9 := off_LP10)); (k_here; (with_reducible show wpAny _ _ (call (Value.ref 65) _ _) _ _ _); refine stop_here ?_))
  k_with "call ref" => ((fail_if_success (have z9 := off_LP10)); (k_here; (with_reducible show wpAny _ _ (call (Value.ref 83) _ _) _ _ _); refine stop_here ?_))
  k_with "call ref" => ((fail_if_success (have z9 := off_LP10)); (k_here; (with_reducible show wpAny _ _ (call (Value.ref 127) _ _) _ _ _); refine stop_here ?_))
  k_with "call ref" => ((fail_if_success (have z9 := off_LP10)); (k_here; (with_reducible show wpAny _ _ (call (Value.ref 162) _ _) _ _ _); refine stop_here ?_))
  k_with "newList" => ((fail_if_success (have z9 := off_LP10)); (k_here; k_dflt (refine' newList_K (by k_asm) (by k_asm) ?_); refine stop_here ?_))
  k_with "eval ListComp" => ((fail_if_success (have z9 := off_LP10)); (refine stop_here ?_))
  k_with "CompR" => ((fail_if_success (have z9 := off_LP10)); (refine stop_here ?_))
  k_with "execs cons" => ((fail_if_success (have z9 := off_LP10)); (refine stop_here ?_))
  trivial
theorem c_p10 : P10 w p loose mean mg mb fa h₀ L hp gs dr tk0 os0 Q E rest u o1 o2 o3 o4 o5 o6 o7 NM cc cd nk nvs nums b dk wd tb td tw := by
  unfold P10 LawRun LawOwn
  dsimp only [lawBody, lawScope, hd.o_277, hdS, List.tail_cons]
  k_fill
  intro B X T ch41 ch34 ch236 hE l37 l30 l234 F N d2 d5 d6 hb0 hb1 hk0 hk1 hw0 hw1 d4 lNM hnv hNO hnext
  dsimp only [kstB] at F
  have hRf := rings_facts hb0 hb1 hk0 hk1
  k_steps
  refine Stop.go ?_
  refine wpAny_execs_cons ?_
  k_steps
  refine Stop.go ?_
  intro K hKh FK NK lKK
  k_lt lKK
  k_steps
  refine Stop.go ?_
  refine wpAny_execs_cons ?_
  k_steps
  refine Stop.go ?_
  intro RS hRh FR NR lRR
  k_lt lRR
  k_steps
  refine Stop.go ?_
  refine wpAny_execs_cons ?_
  refine For_T ?_ (fun _ => rfl) hE
  k_steps
  refine Stop.go ?_
  intro RL us nr0 h0 tk0' F0 N0 hus l0
  dsimp only at F0 N0 l0 ⊢
  k_lt l0
  k_steps
  refine Stop.go ?_
  refine' loop_listT (σ := List Value × Nat × List Value × Nat × Obj × List (Addr × Obj)) (fun c => (RL, W.listOf us.toArray nr0) :: (RS, W.listOf c.2.2.1.toArray c.2.2.2.1) :: (K, W.listOf c.1.toArray c.2.1) :: (NM, W.listOf nvs.toArray nk) :: (L + 1 + 1 + 1 + 1 + 1 + 1 + 1, o7) :: (L + 1 + 1 + 1 + 1 + 1 + 1, o6) :: (L + 1 + 1 + 1 + 1 + 1, c.2.2.2.2.1) :: (L + 1 + 1 + 1 + 1, o4) :: (L + 1 + 1 + 1, o3) :: (L + 1 + 1, o2) :: (L + 1, o1) :: (37, tabObj #[]) :: (30, tabObj #[]) :: (234, tabObj #[rawInt 201, rawInt 41, .ref cc, rawInt 203, rawInt 41, .ref cd]) :: c.2.2.2.2.2) (fun c => [(Str.ofString "dark", .int dk td), (Str.ofString "width", .int wd tw), (Str.ofString "kinds", .ref K), (Str.ofString "rests", .ref RS)]) [Str.ofString "total"]
    (fun rest c tk => RingW b dk nums (ringsOf b dk) RL rest c tk) ([], 0, [], 0, o5, []) rfl F0 N0 (fun c => .head _) rfl rfl ?hk ?hp ?turn ?done
  (case hk => walk_at "my:ps")
  (case hp => exact ⟨[], _, rfl, hus, .nil, .nil, fun q hq => absurd hq List.not_mem_nil, _, d5⟩)
  (case turn =>
    rintro I hI v r ⟨kvs, n1, rvs, n2, o5c, prs⟩ t m it h ⟨don, rs, hdr, hir, hkp, hrp, hpl, ov, hov⟩ F8 hkm hrm N8 off8
    obtain ⟨q, tq, rs', rfl, rfl, hir'⟩ := intsare_cons hir
    dsimp only at hkp hrp hpl hov F8 N8 off8 ⊢
    have F8 := fr_k F8 _ hkm
    dsimp only [kstB] at F8
    k_lt hI
    have hq : q ∈ ringsOf b dk := by rw [← hdr]; exact List.mem_append_right _ (.head _)
    have hqx := (hRf.2.2 q hq).2.2
    have hq0 := (hRf.2.2 q hq).1
    have hq1 := (hRf.2.2 q hq).2.1
    have hp5 : ∀ p ∈ prs, p.1 ≠ L + 1 + 1 + 1 + 1 + 1 := fun p hp => by have := hpl p hp; exact Nat.ne_of_gt (by omega)
    have hpK : ∀ p ∈ prs, p.1 ≠ K := fun p hp => by have := hpl p hp; exact Nat.ne_of_gt (by omega)
    have hpS : ∀ p ∈ prs, p.1 ≠ RS := fun p hp => by have := hpl p hp; exact Nat.ne_of_gt (by omega)
    have hpI : ∀ p ∈ prs, p.1 ≠ I := fun p hp => off8 p (by repeat (first | exact hp | apply List.mem_cons_of_mem))
    k_steps
    rename_i hR5 o5n FR5 NR5 d5n
    refine Stop.go ?_
    refine wpAny_execs_cons (wpAny_toksE ?_)
    k_steps
    refine Stop.go ?_
    refine ListComp_R (by k_asm) (by with_unfolding_all rfl) (by decide) (by rfl) (by decide) (by rfl) ?_
    k_steps
    refine Stop.go ?_
    rename News _ _ _ _ => NA
    rename Fr _ _ _ _ => FA
    have hbn : Builtin.Range.rangeSize 0 b 1 = ((b.toNat : Nat) : Int) := by rw [rangeSize_one]; split <;> omega
    refine' ⟨_, _, _, _, _, _, b.toNat, _, rfl, rfl, FA, NA, by assumption, small_one (by omega) (by omega) (by omega) (by omega), hbn, by rw [sizeLine_eq]; omega,
      fun i ys => IntsAre ys (darkOf nums q i), IntsAre.nil, ?_, ?_⟩
    · intro i t9 ys8 I9 oI C oC Dn m₂ h8 tk8 E8 hi hP hns hx F7 N7 off ne
      rw [Int.zero_add] at hx
      dsimp only at F7 N7 ⊢
      obtain ⟨ranks, hrk, hnl, hrq⟩ := hNO
      k_steps
      · rename (_ = (1 : Int)) => hbit
        exact CEnd.mk (by k_asm) (by k_asm) (fun _ h => h) (dark_yes hbit hP _)
      · rename (_ ≠ (1 : Int)) => hbit
        exact CEnd.mk (by k_asm) (by k_asm) (fun _ h => h) (dark_no hbit hP)
    · intro Dn ys8 h8 tk8 k8 hP F7 N7 l8
      dsimp only at F7 N7 ⊢
      k_lt l8
      k_steps
      refine Stop.go ?_
      rename (@LE.le Nat _ _ _) => hle1
      dsimp only at hle1
      refine wpAny_execs_cons (wpAny_toksE ?_)
      k_steps
      refine Stop.go ?_
      intro tl hl9 tkl Fl Nl
      dsimp only
      k_steps
      refine Stop.go ?_
      intro P1 hP1 FP1 NP1 lP1
      k_lt lP1
      k_steps
      refine Stop.go ?_
      have hkl := hkp.length
      rw [kinds_length] at hkl
      have hrl := hrp.length
      rw [rests_length] at hrl
      have hdl : don.length ≤ 20 := by
        have e1 := congrArg List.length hdr
        rw [List.length_append] at e1
        have e2 := hRf.2.1
        omega
      k_dflt (refine' Spec.useUT (ir_pairs w p loose mean mg mb _ _ K P1 kvs (kindsOf b don) n1 0 (leastOf b q) q _ tq (fun _ => True) ?hkA ?haA ?UA (by omega) (kinds_sorted b don)) ?k1A ?k2A ?k3A ?k4A ?k5A ?kKA ?kdA ?kuA ?_)
      (case k1A => k_asm); (case k2A => k_asm); (case k3A => k_asm); (case k4A => k_asm); (case k5A => k_asm)
      (case kKA => exact rfl)
      (case kdA => ktr_room)
      (case kuA => ktr_units)
      (case hkA => exact hkp.mono (by walk_at "my:tl") (fun _ h => h))
      (case haA => exact List.Mem.head _)
      (case UA => k_upd)
      intro h5 tk5 le5 F5 N5
      dsimp only at le5 ⊢
      k_steps
      refine Stop.go ?_
      rename (@LE.le Nat _ _ _) => hle2
      dsimp only at hle2
      refine wpAny_execs_cons (wpAny_toksE ?_)
      k_steps
      refine Stop.go ?_
      k_dflt (refine' Spec.useIT (spec_sub w p loose mean mg mb _ _ _ _ _) ?k1B ?k2B ?k3B ?k4B ?k5B ?kKB ?kdB ?kuB ?_)
      (case k1B => k_asm); (case k2B => k_asm); (case k3B => k_asm); (case k4B => k_asm); (case k5B => k_asm)
      (case kKB => exact rfl)
      (case kdB => ktr_room)
      (case kuB => ktr_units)
      intro t6 h6 tk6 le6 F6 N6
      dsimp only at le6 ⊢
      k_steps
      refine Stop.go ?_
      k_dflt (refine' spec_modT w p loose mean mg mb _ _ b _ _ (by omega) _ _ _ _ _ _ _ _ _ _ _ _ _ _ _ _ _ ?k1C ?k2C ?k3C ?k4C ?k5C ?kKC ?kdC ?kuC ?_)
      (case k1C => k_asm); (case k2C => k_asm); (case k3C => k_asm); (case k4C => k_asm); (case k5C => k_asm)
      (case kKC => exact rfl)
      (case kdC => ktr_room)
      (case kuC => ktr_units)
      intro tm hm tkm lm1 lm2 Fm Nm
      dsimp only at lm1 lm2 ⊢
      k_steps
      refine Stop.go ?_
      intro P2 hP2 FP2 NP2 lP2
      k_lt lP2
      k_steps
      refine Stop.go ?_
      k_dflt (refine' Spec.useUT (il_pairs w p loose mean mg mb _ _ RS P2 rvs (restsOf b dk nums don) n2 0 q (restOf b dk nums q) tq tm (fun u => @LT.lt Nat _ 0 u ∧ @LT.lt Nat _ u t) ?hkD ?haD ?UD (by omega) (rests_sorted b dk nums don)) ?k1D ?k2D ?k3D ?k4D ?k5D ?kKD ?kdD ?kuD ?_)
      (case k1D => k_asm); (case k2D => k_asm); (case k3D => k_asm); (case k4D => k_asm); (case k5D => k_asm)
      (case kKD => exact rfl)
      (case kdD => ktr_room)
      (case kuD => ktr_units)
      (case hkD => exact hrp.mono (by walk_at "my:tl") (fun _ h => h))
      (case haD => exact List.Mem.head _)
      (case UD => k_upd)
      intro h7 tk7 le7 F7' N7'
      dsimp only at le7 ⊢
      k_steps
      dsimp only [LPostT, LEndT]
      refine' ⟨(insV kvs (((kindsOf b don).map (·.1)).countP (fun k => decide (k ≤ leastOf b q))) (.ref P1), n1 + 1, insV rvs (((restsOf b dk nums don).map (·.2)).countP (fun k => decide (k < restOf b dk nums q))) (.ref P2), n2 + 1, o5n, (P2, W.listOf [.int q tq, .int (restOf b dk nums q) tm].toArray 0) :: (P1, W.listOf [.int (leastOf b q) tl, .int q tq].toArray 0) :: prs),
        _, _, _, _, rfl, ?kF, ?kN, ?hn, ?ho, ?hk, ?hr, ⟨don ++ [q], rs', by rw [List.append_assoc]; exact hdr, hir', ?p1, ?p2, ?p3, ⟨_, d5n⟩⟩⟩
      (case kF => k_asm)
      (case kN => k_asm)
      (case hn => dsimp only; walk_at "my:all")
      (case ho => dsimp only; (repeat (refine List.forall_mem_cons.mpr ⟨by k_ne, ?_⟩)); exact hpI)
      (case hk => walk_at "my:ps")
      (case hr =>
        intro z e1 e2
        refine Eq.trans ?_ (hrm z e1 e2)
        simp only [List.forall_mem_cons, List.not_mem_nil, false_implies, implies_true, and_true, ne_eq] at e1
        simp only [List.contains_cons, List.contains_nil, Bool.or_false, Bool.or_eq_false_iff, beq_eq_false_iff_ne, ne_eq] at e2
        simp only [e1, e2, if_false])
      (case p1 =>
        rw [kinds_snoc]
        exact (hkp.mono (by walk_at "my:tl") (fun _ h => h)).ins _ (.tail _ (.head _)) True.intro)
      (case p2 =>
        rw [rests_snoc]
        exact (hrp.mono (by walk_at "my:tl") (fun u h => ⟨h.1, by omega⟩)).ins _ (.head _) ⟨by omega, by omega⟩)
      (case p3 =>
        refine List.forall_mem_cons.mpr ⟨by dsimp only; omega, List.forall_mem_cons.mpr ⟨by dsimp only; omega, hpl⟩⟩))
  (case done =>
    rintro ⟨kvs, n1, rvs, n2, o5c, prs⟩ m h tk ⟨don, rs, hdr, hir, hkp, hrp, hpl, ov, hov⟩ F8 hkm hrm N8
    have hrs : rs = [] := by cases hir; rfl
    subst hrs
    rw [List.append_nil] at hdr
    subst hdr
    dsimp only at hkp hrp hpl hov F8 N8 ⊢
    refine' hnext _ _ _ o1 o2 o3 o4 o5c o6 o7 K RS cc cd n1 n2 kvs rvs prs nums b dk wd tb td tw (fr_k F8 _ hkm) (cb_drop N8 ?hn) d2 d6 hb0 hb1 hk0 hk1 hw0 hw1 ?f1 ?f2 ?f3 hNO hkp hrp
    (case hn => walk_at "my:all")
    (case f1 => omega)
    (case f2 => omega)
    (case f3 => exact fun q hq => by have := hpl q hq; omega))
end
end
end
theorem off_LP10 : True := trivial
-- LP11
theorem again_LP11 : True := by w_top off; (try walk1); trivial
section
section
open K0
section
theorem lay_28 : True := by
  k_with "my:lam" => ((fail_if_success (have z9 := off_LP11)); (refine' kla_code (by k_asm) (by k_asm) (by k_asm) (by k_asm) (by k_asm) (by exact rfl) (by exact rfl) (by first | assumption | exact rfl) (by k_mem) (by exact codeRec_news (by k_asm) (by k_mem) (by assumption) (by assumption)) (by ktr_room) (by exact rfl) (by exact locs rfl) ?_ (by exact rfl) (by exact rfl) (by exact rfl) (by decide); k_whole; intro zg zL zh zFG zF zN zB zX zT; (try dsimp only); (try k_lift zB); (try k_fold)))
  k_with "call type:range" => ((fail_if_success (have z9 := off_LP11)); (k_here; (first | refine range_F1 (by k_asm) (by k_asm) ?_ | refine range_F2 (by k_asm) (by k_asm) ?_); intro _ _ _ _ _ _ _ _ _ _; (try dsimp only)))
  k_with "call builtin:sorted" => ((fail_if_success (have z9 := off_LP11)); (refine stop_here ?_))
  k_with "eval Lambda" => ((fail_if_success (have z9 := off_LP11)); (refine stop_here ?_))
  k_with "compareOp NotEq ref ref" => ((fail_if_success (have z9 := off_LP11)); (refine stop_here ?_))
  trivial
theorem c_p11 : P11 w p loose mean mg mb fa h₀ L hp gs dr tk0 os0 Q E rest u o1 o2 o3 o4 o5 o6 o7 K RS cc cd nk nr kvs rvs prs nums b dk wd tb td tw := by
  unfold P11 LawRun LawOwn
  dsimp only [lawBody, lawScope, hd.o_277, hdS, List.tail_cons]
  k_fill
  intro B X T ch41 ch34 ch236 hE l37 l30 l234 F N d2 d6 hb0 hb1 hk0 hk1 hw0 hw1 lK lRS hpr hNO hK hR hnext
  dsimp only [kstB] at F
  have hrl := rings_two hb0 hb1 hk0 hk1
  have hr20 := (rings_facts hb0 hb1 hk0 hk1).2.1
  have p234 : ∀ q ∈ prs, q.1 ≠ 234 := fun q hq => Nat.ne_of_gt (Nat.lt_trans (by omega) (hpr q hq))
  refine wpAny_execs_cons (wpAny_toksE ?_)
  k_steps
  refine Stop.go ?_
  refine sorted_pairs (by k_asm) (by k_asm) (by k_mem) (hK.mono (by walk_at "my:tl") fun _ h => h) (by rw [kinds_length]; exact hrl) (by rw [kinds_length]; omega) (by ktr_units) (kinds_adj hb0 hb1 hk0 hk1) ?_
  intro D1 k1 h1 F1 N1 l1
  dsimp only at F1 N1 l1 ⊢
  k_lt l1
  k_steps
  refine Stop.go ?_
  refine ne_same (N1 (_, _) (by k_mem)).1 (N1 (_, _) (by k_mem)).1 hK.refs (by ktr_units) ?_
  k_steps
  refine Stop.go ?_
  k_dflt (refine' kla_eval ?d0 ?_; (case d0 => exact rfl))
  k_dflt (refine' kla_nest ?F ?N ?T ?C ?cd ?U ?t ?n ?cl ?_; (case F => k_asm); (case N => k_asm); (case T => k_asm); (case cd => exact rfl); (case C => kn_code); (case U => k_updF); (case t => kn_triples); (case n => kn_among); (case cl => exact rfl); k_whole)
  intro fl cl ocl vfl tl ctl hl tkl Fl Nl dl1 dl2 ll1 ll2
  (try dsimp only at Nl)
  k_lt ll1
  k_lt2 ll2
  k_steps
  refine Stop.go ?_
  rename News _ _ _ _ => NA
  rename Fr _ _ _ _ => FA
  k_dflt (refine' sorted_tups FA NA ?hm (hR.mono ?hl fun _ h => h) ?h2 ?h64 ?hcall (rests_adj nums hb0 hb1 hk0 hk1) ?_)
  (case hm => k_mem)
  (case hl => walk_at "my:tl")
  (case h2 => rw [rests_length]; exact hrl)
  (case h64 => rw [rests_length]; omega)
  (case hcall =>
    intro s' n2 pa x y t u k Q' E' hsub hpa F2 N2 hq
    have hf := hsub _ (List.Mem.head _)
    have hc := hsub (cl, ocl) (by k_mem)
    have N3 := news_front N2 hpa hf hc
    refine wpAny_call ?_
    k_dflt (walk_at "my:lam")
    k_steps
    refine hq _ _ _ _ _ (by k_asm) (cb_drop (by k_asm) (List.forall_mem_cons.mpr ⟨List.Mem.head _, ?_⟩)) ?_
    · walk_at "my:tl"
    · walk_at "my:lt")
  intro D2 k2 h2 tk2 F2 N2 l2
  dsimp only at F2 N2 l2 ⊢
  k_lt l2
  k_steps
  refine Stop.go ?_
  refine ne_same (N2 (_, _) (by k_mem)).1 (N2 (_, _) (by k_mem)).1 hR.refs (by ktr_units) ?_
  k_steps
  rename (@LE.le Nat _ _ _) => hle
  dsimp only at hle ⊢
  refine' hnext _ _ _ o1 o2 o3 o4 o5 o6 o7 K RS cc cd cl nk nr kvs rvs prs nums b dk wd tb td tw (fr_k (by k_asm) _ ?hf) (cb_drop (by k_asm) ?hn) d2 d6 hb0 hb1 hk0 hk1 hw0 hw1 lK lRS hpr hNO hK (hR.mono (fun _ h => h) fun u h => ⟨h.1, Nat.lt_of_lt_of_le h.2 hle⟩)
  (case hf => walk_at "my:ps")
  (case hn => walk_at "my:all")
end
end
end
theorem off_LP11 : True := trivial
-- LP12
theorem again_LP12 : True := by w_top off; (try walk1); trivial
section
section
open K0
section
theorem lay_29 : True := by
  k_with "newList" => ((fail_if_success (have z9 := off_LP12)); (k_here; k_dflt (refine' newList_K (by k_asm) (by k_asm) ?_); refine stop_here ?_))
  k_with "call type:range" => ((fail_if_success (have z9 := off_LP12)); (k_here; (first | refine range_F1 (by k_asm) (by k_asm) ?_ | refine range_F2 (by k_asm) (by k_asm) ?_); intro _ _ _ _ _ _ _ _ _ _; (try dsimp only)))
  k_with "execs cons" => ((fail_if_success (have z9 := off_LP12)); (refine stop_here ?_))
  trivial
theorem c_p12 : P12 w p loose mean mg mb fa h₀ L hp gs dr tk0 os0 Q E rest u o1 o2 o3 o4 o5 o6 o7 K RS cc cd ce nk nr kvs rvs prs nums b dk wd tb td tw := by
  unfold P12 LawRun LawOwn
  dsimp only [lawBody, lawScope, hd.o_277, hdS, List.tail_cons]
  k_fill
  intro B X T ch41 ch34 ch236 hE l37 l30 l234 F N d2 d6 hb0 hb1 hk0 hk1 hw0 hw1 lK lRS hpr hNO hK hR hnext
  dsimp only [kstB] at F
  refine wpAny_execs_cons (wpAny_toksE ?_)
  k_steps
  refine Stop.go ?_
  intro OR hO FO NO lO
  have hprO : ∀ q ∈ prs, @LT.lt Nat _ q.1 OR := fun q hq => lO q (by repeat (first | exact hq | apply List.mem_cons_of_mem))
  k_lt lO
  k_steps
  refine Stop.go ?_
  rename (@LE.le Nat _ _ _) => hle1
  dsimp only at hle1
  refine wpAny_execs_cons (wpAny_toksE ?_)
  k_steps
  rename (@LE.le Nat _ _ _) => hle2
  dsimp only at hle2 ⊢
  refine' hnext _ _ _ o1 o2 o3 o4 o5 o6 o7 K RS cc cd ce nk nr kvs rvs prs nums b dk wd tb td tw OR _ (fr_k (by k_asm) _ ?hf) (cb_drop (by k_asm) ?hn) d2 d6 hb0 hb1 hk0 hk1 hw0 hw1 lK lRS hpr hNO hK (hR.mono (fun _ h => h) fun u h => ⟨h.1, by have := h.2; omega⟩) (by omega) hprO
  (case hf => walk_at "my:ps")
  (case hn => walk_at "my:all")
end
end
end
theorem off_LP12 : True := trivial
-- LP14
theorem again_LP14 : True := by w_top off; (try walk1); trivial
section
section
open K0
section
theorem lay_30 : True := by
  k_with "my:pm" => ((fail_if_success (have z9 := off_LP14)); (repeat (first | assumption | apply List.mem_cons_of_mem)))
  k_with "call builtin:len" => ((fail_if_success (have z9 := off_LP14)); (refine len_at (by k_asm) (by k_mem) (by omega) ?_))
  k_with "call ref" => ((fail_if_success (have z9 := off_LP14)); (k_here; (with_reducible show wpAny _ _ (call (Value.ref 74) _ _) _ _ _); refine stop_here ?_))
  k_with "call ref" => ((fail_if_success (have z9 := off_LP14)); (k_here; (with_reducible show wpAny _ _ (call (Value.ref 56) _ _) _ _ _); refine stop_here ?_))
  k_with "my:lam" => ((fail_if_success (have z9 := off_LP14)); (refine' kla_code (by k_asm) (by k_asm) (by k_asm) (by k_asm) (by k_asm) (by exact rfl) (by exact rfl) (by first | assumption | exact rfl) (by k_mem) (by exact codeRec_news (by k_asm) (by k_mem) (by assumption) (by assumption)) (by ktr_room) (by exact rfl) (by exact locs rfl) ?_ (by exact rfl) (by exact rfl) (by exact rfl) (by decide); k_whole; intro zg zL zh zFG zF zN zB zX zT; (try dsimp only); (try k_lift zB); (try k_fold)))
  k_with "newList" => ((fail_if_success (have z9 := off_LP14)); (k_here; k_dflt (refine' newList_K (by k_asm) (by k_asm) ?_); refine stop_here ?_))
  k_with "call type:range" => ((fail_if_success (have z9 := off_LP14)); (k_here; (first | refine range_F1 (by k_asm) (by k_asm) ?_ | refine range_F2 (by k_asm) (by k_asm) ?_); intro _ _ _ _ _ _ _ _ _ _; (try dsimp only)))
  k_with "KswEnd" => ((fail_if_success (have z9 := off_LP14)); (refine stop_here ?_))
  k_with "exec While Compare cons nil" => ((fail_if_success (have z9 := off_LP14)); (refine stop_here ?_))
  k_with "subscriptTail Name Name ref int" => ((fail_if_success (have z9 := off_LP14)); (refine stop_here ?_))
  k_with "subscriptTail" => ((fail_if_success (have z9 := off_LP14)); (refine stop_here ?_))
  trivial
theorem c_p14 : P14 w p loose mean mg mb fa h₀ L hp gs dr tk0 os0 Q E rest u o1 o2 o3 o4 o5 o6 o7 K RS cc cd ce nk nr kvs rvs prs nums b dk wd tb td tw OR tp0 := by
  unfold P14 LawRun LawOwn
  dsimp only [lawBody, lawScope, hd.o_277, hdS, List.tail_cons]
  k_fill
  intro hip B X T ch41 ch34 ch236 hE l37 l30 l234 F N d2 d6 hb0 hb1 hk0 hk1 hw0 hw1 lK lRS hpr hNO hK hR lOR hprO hnext
  dsimp only [kstB] at F
  have hkl20 := kinds_len_le hb0 hb1 hk0 hk1
  have hkl := hK.length
  have hord := ord_all hb0 hb1 hk0 hk1
  refine wpAny_execs_cons (wpAny_toksE ?_)
  refine' ksw_while (σ := Int × Tok × List Value × List Int × Nat × Obj × Obj × Addr × Obj × Addr × Obj) (fun c => (OR, W.listOf c.2.2.1.toArray c.2.2.2.2.1) :: (30, c.2.2.2.2.2.1) :: (c.2.2.2.2.2.2.2.1, c.2.2.2.2.2.2.2.2.1) :: (37, c.2.2.2.2.2.2.1) :: (c.2.2.2.2.2.2.2.2.2.1, c.2.2.2.2.2.2.2.2.2.2) :: (K, W.listOf kvs.toArray nk) :: (RS, W.listOf rvs.toArray nr) :: (L + 1 + 1 + 1 + 1 + 1 + 1 + 1, o7) :: (L + 1 + 1 + 1 + 1 + 1 + 1, o6) :: (L + 1 + 1 + 1 + 1 + 1, o5) :: (L + 1 + 1 + 1 + 1, o4) :: (L + 1 + 1 + 1, o3) :: (L + 1 + 1, o2) :: (L + 1, o1) :: (234, tabObj #[rawInt 201, rawInt 41, .ref cc, rawInt 203, rawInt 41, .ref cd, rawInt 214, rawInt 60, .ref ce]) :: prs) (fun c => [(Str.ofString "place", .int c.1 c.2.1), (Str.ofString "dark", .int dk td), (Str.ofString "width", .int wd tw), (Str.ofString "kinds", .ref K), (Str.ofString "rests", .ref RS), (Str.ofString "orders", .ref OR)]) (fun c => IntsAre c.2.2.1 c.2.2.2.1)
    [Str.ofString "least", Str.ofString "ends", Str.ofString "behind", Str.ofString "order", Str.ofString "left"]
    (fun c => OrdW b dk c.1 c.2.2.1 c.2.2.2.1 ((K, W.listOf kvs.toArray nk) :: (RS, W.listOf rvs.toArray nr) :: (L + 1 + 1 + 1 + 1 + 1 + 1 + 1, o7) :: (L + 1 + 1 + 1 + 1 + 1 + 1, o6) :: (L + 1 + 1 + 1 + 1 + 1, o5) :: (L + 1 + 1 + 1 + 1, o4) :: (L + 1 + 1 + 1, o3) :: (L + 1 + 1, o2) :: (L + 1, o1) :: (234, tabObj #[rawInt 201, rawInt 41, .ref cc, rawInt 203, rawInt 41, .ref cd, rawInt 214, rawInt 60, .ref ce]) :: prs) c.2.2.2.2.2.1 c.2.2.2.2.2.2.1 (c.2.2.2.2.2.2.2.1, c.2.2.2.2.2.2.2.2.1) (c.2.2.2.2.2.2.2.2.2.1, c.2.2.2.2.2.2.2.2.2.2) L ∧ @Ne Nat c.2.2.2.2.2.2.2.1 OR ∧ @Ne Nat c.2.2.2.2.2.2.2.2.2.1 OR)
    (fun c => kvs.length - c.1.toNat) (0, _, [], [], 0, tabObj #[], tabObj #[], L + 1, o1, L + 1, o1) F (cb_drop N ?hn) IntsAre.nil ?hk ?hp ?_ hE
  (case hn => dsimp only; walk_at "my:all")
  (case hk => walk_at "my:ps")
  (case hp =>
    have q30 : ∀ q ∈ prs, q.1 ≠ 30 := fun q hq => Nat.ne_of_gt (Nat.lt_trans (by omega) (hpr q hq))
    have q37 : ∀ q ∈ prs, q.1 ≠ 37 := fun q hq => Nat.ne_of_gt (Nat.lt_trans (by omega) (hpr q hq))
    refine' ⟨⟨⟨_, List.nil_append _, hord⟩, Int.le_refl _, ⟨.none _, .none _, by k_ne, by k_ne, by k_ne, by k_ne, ?p3, ?p7⟩, fun q _ h => h, fun q _ h => h⟩, by k_ne, by k_ne⟩
    (case p3 => (repeat (refine List.forall_mem_cons.mpr ⟨by k_ne, ?_⟩)); exact q30)
    (case p7 => (repeat (refine List.forall_mem_cons.mpr ⟨by k_ne, ?_⟩)); exact q37))
  rintro ⟨place, tp, ovs, ods, no, o3t, o7t, c3, b3, c7, b7⟩ u8 h8 tk8 hiv ⟨hW, hO3, hO7⟩ F8 N8
  dsimp only [kstB] at hiv hW hO3 hO7 F8 N8 ⊢
  obtain ⟨⟨rr, hrr, hrB⟩, hp0, hTb, hk3, hk7⟩ := hW
  have hpO1 : ∀ q ∈ prs, q.1 ≠ OR := fun q hq => Nat.ne_of_lt (hprO q hq)
  k_steps
  · refine Stop.go ?_
    rename (place < ((List.length kvs : Nat) : Int)) => hlt
    cases rr with
    | nil =>
      have := Nat.eq_of_beq_eq_true (show Nat.beq place.toNat (kindsOf b (ringsOf b dk)).length = true from hrB)
      omega
    | cons o rr =>
      rw [show ordB b (kindsOf b (ringsOf b dk)) place.toNat (o :: rr) = (ordStepB b (kindsOf b (ringsOf b dk)) place.toNat o && ordB b (kindsOf b (ringsOf b dk)) (behOf (kindsOf b (ringsOf b dk)) place.toNat).toNat rr) from rfl, Bool.and_eq_true] at hrB
      have hS := ordStepB_ok hrB.1
      obtain ⟨pn, rfl⟩ : ∃ pn : Nat, place = (pn : Int) := ⟨place.toNat, by omega⟩
      rw [Int.toNat_natCast] at hS hrB
      obtain ⟨pa, pt, pu, pk, hpv, hpm, _⟩ := hK.atIx pn hS.lt
      have hS1 := hS.hd
      rw [hS1] at hpm
      have hS2 := hS.c1
      have hS3 := hS.c2
      have hS4 := hS.up
      have hS5 := hS.top
      have hS6 := hS.mul
      have hS7 := hS.o1
      refine' sub_at (by k_asm) (by k_mem) ?q0 ?q1 ?q2 ?_
      (case q0 => omega)
      (case q1 => omega)
      (case q2 => omega)
      rw [Int.toNat_natCast, hpv]
      k_steps
      refine Stop.go ?_
      refine pair_1 (by k_asm) (by walk_at "my:pm") ?_
      k_steps
      refine Stop.go ?_
      k_dflt (refine' Spec.useI (brb_pairs w p loose mean mg mb _ K kvs (kindsOf b (ringsOf b dk)) nk (fun _ => True) ?hkA ?hmA (by omega) (kinds_sorted _ _) (-1) _ (pn : Int) _ (by omega) (by omega) (pn : Int) hS2) ?k1A ?k2A ?k3A ?k4A ?k5A ?kKA ?kdA ?kuA ?_)
      (case k1A => k_asm); (case k2A => k_asm); (case k3A => k_asm); (case k4A => k_asm); (case k5A => k_asm)
      (case kKA => exact rfl)
      (case kdA => ktr_room)
      (case kuA => ktr_units)
      (case hkA => exact hK.mono (by walk_at "my:tl") fun _ h => h)
      (case hmA => k_mem)
      intro ta ha tka Fa Na
      dsimp only
      k_steps
      refine Stop.go ?_
      k_dflt (refine' Spec.useI (brc_pairs w p loose mean mg mb _ K kvs (kindsOf b (ringsOf b dk)) nk (fun _ => True) ?hkB ?hmB (by omega) (kinds_sorted _ _) _ _ 0 _ (by omega) (pn : Int) _ (by omega) (by omega) (pn : Int) hS3) ?k1B ?k2B ?k3B ?k4B ?k5B ?kKB ?kdB ?kuB ?_)
      (case k1B => k_asm); (case k2B => k_asm); (case k3B => k_asm); (case k4B => k_asm); (case k5B => k_asm)
      (case kKB => exact rfl)
      (case kdB => ktr_room)
      (case kuB => ktr_units)
      (case hkB => exact hK.mono (by walk_at "my:tl") fun _ h => h)
      (case hmB => k_mem)
      intro tb2 hb2 tkb2 Fb2 Nb2
      dsimp only
      k_steps
      refine Stop.go ?_
      intro EN hEN FEN NEN lEN
      k_lt lEN
      k_steps
      refine Stop.go ?_
      refine' sub_at (by k_asm) (by k_mem) ?q3 ?q4 ?q5 ?_
      (case q3 => omega)
      (case q4 => omega)
      (case q5 => omega)
      rw [Int.toNat_natCast, hpv]
      k_steps
      refine Stop.go ?_
      refine pair_0 (by k_asm) (by walk_at "my:pm") ?_
      k_steps
      · contradiction
      refine Stop.go ?_
      intro EM hEM FEM NEM lEM
      k_lt lEM
      k_steps
      refine Stop.go ?_
      k_dflt (refine' Spec.useI (brb_pairs w p loose mean mg mb _ K kvs (kindsOf b (ringsOf b dk)) nk (fun _ => True) ?hkC ?hmC (by omega) (kinds_sorted _ _) _ _ (pn : Int) _ (by omega) (by omega) (behOf (kindsOf b (ringsOf b dk)) pn) rfl) ?k1C ?k2C ?k3C ?k4C ?k5C ?kKC ?kdC ?kuC ?_)
      (case k1C => k_asm); (case k2C => k_asm); (case k3C => k_asm); (case k4C => k_asm); (case k5C => k_asm)
      (case kKC => exact rfl)
      (case kdC => ktr_room)
      (case kuC => ktr_units)
      (case hkC => exact hK.mono (by walk_at "my:tl") fun _ h => h)
      (case hmC => k_mem)
      intro tc2 hc2 tkc2 Fc2 Nc2
      dsimp only
      k_steps
      refine Stop.go ?_
      have hn1 : 1 * (behOf (kindsOf b (ringsOf b dk)) pn - (pn : Int)) ≤ o * (behOf (kindsOf b (ringsOf b dk)) pn - (pn : Int)) := Int.mul_le_mul_of_nonneg_right hS7 (by omega)
      k_dflt (refine' Spec.useDT (spec_idm w p loose mean mg mb hip ((OR, W.listOf ovs.toArray no) :: (K, W.listOf kvs.toArray nk) :: (RS, W.listOf rvs.toArray nr) :: (L + 1 + 1 + 1 + 1 + 1 + 1 + 1, o7) :: (L + 1 + 1 + 1 + 1 + 1 + 1, o6) :: (L + 1 + 1 + 1 + 1 + 1, o5) :: (L + 1 + 1 + 1 + 1, o4) :: (L + 1 + 1 + 1, o3) :: (L + 1 + 1, o2) :: (L + 1, o1) :: (234, tabObj #[rawInt 201, rawInt 41, .ref cc, rawInt 203, rawInt 41, .ref cd, rawInt 214, rawInt 60, .ref ce]) :: prs) o3t o7t (c3, b3) (c7, b7) (hTb.cons _ (by k_ne) (by k_ne)) b (behOf (kindsOf b (ringsOf b dk)) pn - (pn : Int)) (by omega) (small_pre hb0 hb1 (by omega) (by omega)) _ _) ?k1D ?k2D ?k3D ?k4D ?k5D ?kKD ?kdD ?kuD ?_)
      (case k1D => k_asm); (case k2D => k_asm); (case k3D => k_asm); (case k4D => exact cb_drop (by k_asm) (by walk_at "my:all")); (case k5D => k_asm)
      (case kKD => exact rfl)
      (case kdD => ktr_room)
      (case kuD => ktr_units)
      intro qq zz lt tq2 tz2 o3n c3n b3n o7n c7n b7n hd tkd Fd Nd hx hz hTn hln s3 s7
      obtain ⟨rfl, rfl⟩ := divmod_is hx hz (by omega) (o := o) (r := 0) (by omega) (by omega) (by omega)
      dsimp only
      have hO3n : @Ne Nat OR c3n := s3 _ (.head _) hO3.symm
      have hO7n : @Ne Nat OR c7n := s7 _ (.head _) hO7.symm
      have hz9 : ovs.toArray.size ≤ sizeLine := by
        have e1 := orders_len b dk
        rw [← hrr, List.length_append] at e1
        have e2 := hiv.length
        rw [List.size_toArray, sizeLine_eq]; omega
      have hlo : @Ne Nat OR lt := hln (OR, W.listOf ovs.toArray no) (.tail _ (.tail _ (.tail _ (.tail _ (.head _)))))
      k_steps
      refine Stop.go ?_
      rename News _ _ _ _ => NE
      simp only [List.push_toArray] at NE
      refine' ksw_end (behOf (kindsOf b (ringsOf b dk)) pn, tc2, ovs ++ [.int qq tq2], ods ++ [qq], no + 1, o3n, o7n, c3n, b3n, c7n, b7n) (by k_asm) (cb_drop NE ?hnn) ?hn ?hf ?hk ?hr ?hp ?hm
      (case hnn => exact fun _ h => h)
      (case hn => dsimp only; walk_at "my:all")
      (case hf => exact hiv.append (IntsAre.cons _ _ IntsAre.nil))
      (case hk => walk_at "my:ps")
      (case hr => ksw_same)
      (case hp =>
    have q30 : ∀ q ∈ prs, q.1 ≠ 30 := fun q hq => Nat.ne_of_gt (Nat.lt_trans (by omega) (hpr q hq))
    have q37 : ∀ q ∈ prs, q.1 ≠ 37 := fun q hq => Nat.ne_of_gt (Nat.lt_trans (by omega) (hpr q hq))
    refine' ⟨⟨⟨rr, by rw [List.append_assoc]; exact hrr, hrB.2⟩, by omega, hTn.sub (fun q hq => .tail _ hq), fun q hq h1 => s3 q (.tail _ hq) (hk3 q hq h1), fun q hq h1 => s7 q (.tail _ hq) (hk7 q hq h1)⟩, hO3n.symm, hO7n.symm⟩)
      (case hm => dsimp only; omega)
  · rename (¬ (place < ((List.length kvs : Nat) : Int))) => hnlt
    cases rr with
    | cons o rr =>
      rw [show ordB b (kindsOf b (ringsOf b dk)) place.toNat (o :: rr) = (ordStepB b (kindsOf b (ringsOf b dk)) place.toNat o && ordB b (kindsOf b (ringsOf b dk)) (behOf (kindsOf b (ringsOf b dk)) place.toNat).toNat rr) from rfl, Bool.and_eq_true] at hrB
      have := (ordStepB_ok hrB.1).lt
      omega
    | nil =>
      rw [List.append_nil] at hrr
      rename (@LE.le Nat _ _ _) => hle2
      dsimp only at hle2 ⊢
      refine' hnext _ _ _ o1 o2 o3 o4 o5 o6 o7 K RS cc cd ce nk nr kvs rvs prs nums b dk wd tb td tw OR no ovs o3t o7t b3 b7 c3 c7 (fr_k (by k_asm) _ ?hf) (cb_drop (by k_asm) ?hn) d2 d6 hb0 hb1 hk0 hk1 hw0 hw1 lK lRS hpr hNO hK (hR.mono (fun _ h => h) fun u h => ⟨h.1, by have := h.2; omega⟩) (by omega) hprO (hrr ▸ hiv) hTb hk3 hk7 hO3 hO7
      (case hf => walk_at "my:ps")
      (case hn => (try dsimp only); walk_at "my:all")
end
end
end
theorem off_LP14 : True := trivial
-- LP15
theorem again_LP15 : True := by w_top off; (try walk1); trivial
section
section
open K0
theorem lay_31 : True := by
  k_with "on:iter" => (fail_if_success (have z9 := off_LP15))
  trivial
structure WaysW (Wy : Nat → Int) (n left : Nat) (ways : Int) (rest : List (Addr × Obj)) (o3 o7 : Obj) (k3 k7 : Addr × Obj) (L OR : Addr) : Prop where
  one : ∃ i, i + left = n ∧ ways = Wy i
  tabs : Tabs o3 k3 o7 k7 rest
  hk3 : ∀ q ∈ rest, q.1 ≠ L + 1 → q.1 ≠ k3.1
  hk7 : ∀ q ∈ rest, q.1 ≠ L + 1 → q.1 ≠ k7.1
  hO3 : @Ne Nat k3.1 OR
  hO7 : @Ne Nat k7.1 OR
section
theorem lay_32 : True := by
  k_with "exec For Name Name cons nil" => ((fail_if_success (have z9 := off_LP15)); (k_here; (rename Fr _ _ _ _ => zlF); (with_unfolding_all refine' For_invVF zlF (by exact rfl) (by exact rfl) ?_; k_whole)))
  k_with "exec For Name Call cons nil" => ((fail_if_success (have z9 := off_LP15)); (k_here; (rename Fr _ _ _ _ => zlF); (with_unfolding_all refine' For_invVF zlF (by exact rfl) (by exact rfl) ?_; k_whole)))
  k_with "my:204" => ((fail_if_success (have z9 := off_LP15)); (refine Stop.go ?_; k_dflt (refine' Spec.useI (spec_pw _ _ _ _ _ _ _ _ _ _ _ (by walk_at "my:fact") (by walk_at "my:fact") (by walk_at "my:fact") (by walk_at "my:fact")) (by k_asm) (by k_asm) (by k_asm) (by k_asm) (by k_asm) (by first | exact rfl | assumption) (by ktr_room) (by ktr_units) ?_); walk_at "my:useE"))
  k_with "call ref" => ((fail_if_success (have z9 := off_LP15)); (k_here; (with_reducible show wpAny _ _ (call (Value.ref 204) _ _) _ _ _); refine stop_here ?_))
  k_with "call ref" => ((fail_if_success (have z9 := off_LP15)); (k_here; (with_reducible show wpAny _ _ (call (Value.ref 56) _ _) _ _ _); refine stop_here ?_))
  k_with "newList" => ((fail_if_success (have z9 := off_LP15)); (k_here; k_dflt (refine' newList_K (by k_asm) (by k_asm) ?_); refine stop_here ?_))
  k_with "call type:range" => ((fail_if_success (have z9 := off_LP15)); (k_here; (first | refine range_F1 (by k_asm) (by k_asm) ?_ | refine range_F2 (by k_asm) (by k_asm) ?_); intro _ _ _ _ _ _ _ _ _ _; (try dsimp only)))
  k_with "execs cons" => ((fail_if_success (have z9 := off_LP15)); (refine stop_here ?_))
  trivial
theorem c_p15 : P15 w p loose mean mg mb fa h₀ L hp gs dr tk0 os0 Q E rest u o1 o2 o3 o4 o5 o6 o7 K RS cc cd ce nk nr kvs rvs prs nums b dk wd tb td tw OR no ovs o3t o7t b3 b7 c3 c7 Wy tn ov dg := by
  unfold P15 LawRun LawOwn
  dsimp only [lawBody, lawScope, hd.o_277, hdS, List.tail_cons]
  k_fill
  intro hip B X T ch41 ch34 ch236 hE l37 l30 l234 F N d2 d6 hb0 hb1 hk0 hk1 hw0 hw1 lK lRS hpr hNO hK hR lOR hprO hov hTb hk3 hk7 hO3 hO7 G hnext
  dsimp only [kstB] at F
  refine wpAny_execs_cons (wpAny_toksE ?_)
  k_steps
  refine Stop.go ?_
  rename (@LE.le Nat _ _ _) => hle1
  dsimp only at hle1
  refine wpAny_execs_cons (wpAny_toksE ?_)
  k_steps
  refine Stop.go ?_
  rename Fr _ _ _ _ => FA
  rename News _ _ _ _ => NA
  have hbn : Builtin.Range.rangeSize 1 (dk + 1) 1 = ((dk.toNat : Nat) : Int) := by rw [rangeSize_one]; split <;> omega
  refine' loop_range (σ := Int × Tok × Obj × Obj × Addr × Obj × Addr × Obj) dk.toNat (fun c => (30, c.2.2.1) :: (c.2.2.2.2.1, c.2.2.2.2.2.1) :: (37, c.2.2.2.1) :: (c.2.2.2.2.2.2.1, c.2.2.2.2.2.2.2) :: (OR, W.listOf ovs.toArray no) :: (K, W.listOf kvs.toArray nk) :: (RS, W.listOf rvs.toArray nr) :: (L + 1 + 1 + 1 + 1 + 1 + 1 + 1, o7) :: (L + 1 + 1 + 1 + 1 + 1 + 1, o6) :: (L + 1 + 1 + 1 + 1 + 1, o5) :: (L + 1 + 1 + 1 + 1, o4) :: (L + 1 + 1 + 1, o3) :: (L + 1 + 1, o2) :: (L + 1, o1) :: (234, tabObj #[rawInt 201, rawInt 41, .ref cc, rawInt 203, rawInt 41, .ref cd, rawInt 214, rawInt 60, .ref ce]) :: prs) (fun c => [(Str.ofString "ways", .int c.1 c.2.1), (Str.ofString "dark", .int dk td), (Str.ofString "width", .int wd tw), (Str.ofString "rests", .ref RS), (Str.ofString "orders", .ref OR)]) [Str.ofString "left"]
    (fun k c => WaysW Wy dk.toNat k c.1 ((K, W.listOf kvs.toArray nk) :: (RS, W.listOf rvs.toArray nr) :: (L + 1 + 1 + 1 + 1 + 1 + 1 + 1, o7) :: (L + 1 + 1 + 1 + 1 + 1 + 1, o6) :: (L + 1 + 1 + 1 + 1 + 1, o5) :: (L + 1 + 1 + 1 + 1, o4) :: (L + 1 + 1 + 1, o3) :: (L + 1 + 1, o2) :: (L + 1, o1) :: (234, tabObj #[rawInt 201, rawInt 41, .ref cc, rawInt 203, rawInt 41, .ref cd, rawInt 214, rawInt 60, .ref ce]) :: prs) c.2.2.1 c.2.2.2.1 (c.2.2.2.2.1, c.2.2.2.2.2.1) (c.2.2.2.2.2.2.1, c.2.2.2.2.2.2.2) L OR)
    (1, _, o3t, o7t, c3, b3, c7, b7) rfl (by assumption) (small_one (by omega) (by omega) (by omega) (by omega)) hbn FA (cb_drop NA ?hn) ?hk ?hp ?turn ?done
  (case hn => dsimp only; walk_at "my:all")
  (case hk => walk_at "my:ps")
  (case hp => exact ⟨⟨0, Nat.zero_add _, G.w0.symm⟩, hTb, hk3, hk7, hO3, hO7⟩)
  (case turn =>
    rintro I hI i ⟨ways, tws, o3t, o7t, c3, b3, c7, b7⟩ t uu it h tk hin ⟨⟨j, hj, rfl⟩, hTb, hk3, hk7, hO3, hO7⟩ F8 N8 off8
    have hji : j = i := by omega
    subst hji
    dsimp only [kstB] at hTb hk3 hk7 hO3 hO7 F8 N8 off8 ⊢
    k_lt hI
    have hjd : (j : Int) < dk := by omega
    have hmo := G.mo j hjd
    have hpI : ∀ p ∈ prs, p.1 ≠ I := fun p hp => off8 p (by repeat (first | exact hp | apply List.mem_cons_of_mem))
    k_steps
    refine Stop.go ?_
    refine wpAny_execs_cons ?_
    k_steps
    walk_at "my:204"
    k_steps
    walk_at "my:204"
    k_steps
    refine Stop.go ?_
    k_dflt (refine' Spec.useDT (spec_idm w p loose mean mg mb hip ((I, it) :: (OR, W.listOf ovs.toArray no) :: (K, W.listOf kvs.toArray nk) :: (RS, W.listOf rvs.toArray nr) :: (L + 1 + 1 + 1 + 1 + 1 + 1 + 1, o7) :: (L + 1 + 1 + 1 + 1 + 1 + 1, o6) :: (L + 1 + 1 + 1 + 1 + 1, o5) :: (L + 1 + 1 + 1 + 1, o4) :: (L + 1 + 1 + 1, o3) :: (L + 1 + 1, o2) :: (L + 1, o1) :: (234, tabObj #[rawInt 201, rawInt 41, .ref cc, rawInt 203, rawInt 41, .ref cd, rawInt 214, rawInt 60, .ref ce]) :: prs) o3t o7t (c3, b3) (c7, b7) ((hTb.cons _ (by k_ne) (by k_ne)).cons _ (by k_ne) (by k_ne)) _ _ (by have := G.pp j hjd; omega) (G.pre j hjd) _ _) ?k1D ?k2D ?k3D ?k4D ?k5D ?kKD ?kdD ?kuD ?_)
    (case k1D => k_asm); (case k2D => k_asm); (case k3D => k_asm); (case k4D => exact cb_drop (by k_asm) (by walk_at "my:all")); (case k5D => k_asm)
    (case kKD => exact rfl)
    (case kdD => ktr_room)
    (case kuD => ktr_units)
    intro qq zz lt tq2 tz2 o3n c3n b3n o7n c7n b7n hd tkd Fd Nd hx hz hTn hln s3 s7
    obtain ⟨rfl, rfl⟩ := divmod_is hx hz (G.pp j hjd) (o := Wy (j + 1)) (r := 0) (by rw [G.st j hjd]; omega) (Int.le_refl _) (G.pp j hjd)
    dsimp only
    have hO3n : @Ne Nat OR c3n := s3 _ (.tail _ (.head _)) hO3.symm
    have hO7n : @Ne Nat OR c7n := s7 _ (.tail _ (.head _)) hO7.symm
    have hI3 : @Ne Nat c3 I := off8 (c3, b3) (.tail _ (.head _))
    have hI7 : @Ne Nat c7 I := off8 (c7, b7) (.tail _ (.tail _ (.tail _ (.head _))))
    have hI3n : @Ne Nat I c3n := s3 _ (.head _) hI3.symm
    have hI7n : @Ne Nat I c7n := s7 _ (.head _) hI7.symm
    k_steps
    refine Stop.go ?_
    refine wpAny_execs_cons ?_
    k_steps
    dsimp only [LPost, LEnd]
    refine' ⟨(Wy (j + 1), tq2, o3n, o7n, c3n, b3n, c7n, b7n), _, _, _, _, rfl, ?kF, ?kN, ?hn, ?ho, ?hk, ?hr, ⟨j + 1, by omega, rfl⟩, hTn.sub (fun q hq => .tail _ (.tail _ hq)), fun q hq h1 => s3 q (.tail _ (.tail _ hq)) (hk3 q hq h1), fun q hq h1 => s7 q (.tail _ (.tail _ hq)) (hk7 q hq h1), hO3n.symm, hO7n.symm⟩
    (case kF => k_asm)
    (case kN => k_asm)
    (case hn => dsimp only; walk_at "my:all")
    (case ho => dsimp only; (repeat (refine List.forall_mem_cons.mpr ⟨by k_ne, ?_⟩)); exact hpI)
    (case hk => walk_at "my:ps")
    (case hr => walk_at "my:same"))
  (case done =>
    rintro ⟨ways, tws, o3t, o7t, c3, b3, c7, b7⟩ uu h tk ⟨⟨j, hj, rfl⟩, hTb, hk3, hk7, hO3, hO7⟩ F8 N8
    have hjb : j = dk.toNat := by omega
    subst hjb
    dsimp only [kstB] at hTb hk3 hk7 hO3 hO7 F8 N8 ⊢
    intro hle2
    refine' hnext _ _ _ o1 o2 o3 o4 o5 o6 o7 K RS cc cd ce nk nr kvs rvs prs nums b dk wd tb td tw OR no ovs o3t o7t b3 b7 c3 c7 Wy tn ov dg _ (fr_k F8 _ ?hf) (cb_drop N8 ?hn) d2 d6 hb0 hb1 hk0 hk1 hw0 hw1 lK lRS hpr hNO hK (hR.mono (fun _ h => h) fun u h => ⟨h.1, by have := h.2; omega⟩) lOR hprO hov hTb hk3 hk7 hO3 hO7 G
    (case hf => walk_at "my:ps")
    (case hn => walk_at "my:all"))
end
end
end
theorem off_LP15 : True := trivial
-- LP17
theorem again_LP17 : True := by w_top off; (try walk1); trivial
section
section
open K0
section
theorem lay_33 : True := by
  k_with "my:204" => ((fail_if_success (have z9 := off_LP17)); (refine Stop.go ?_; k_dflt (refine' Spec.useI (spec_pw _ _ _ _ _ _ _ _ _ _ _ (by walk_at "my:fact") (by walk_at "my:fact") (by walk_at "my:fact") (by walk_at "my:fact")) (by k_asm) (by k_asm) (by k_asm) (by k_asm) (by k_asm) (by first | exact rfl | assumption) (by ktr_room) (by ktr_units) ?_); walk_at "my:useE"))
  k_with "call ref" => ((fail_if_success (have z9 := off_LP17)); (k_here; (with_reducible show wpAny _ _ (call (Value.ref 204) _ _) _ _ _); refine stop_here ?_))
  k_with "call ref" => ((fail_if_success (have z9 := off_LP17)); (k_here; (with_reducible show wpAny _ _ (call (Value.ref 56) _ _) _ _ _); refine stop_here ?_))
  k_with "execs cons" => ((fail_if_success (have z9 := off_LP17)); (refine stop_here ?_))
  trivial
theorem c_p17 : P17 w p loose mean mg mb fa h₀ L hp gs dr tk0 os0 Q E rest u o1 o2 o3 o4 o5 o6 o7 K RS cc cd ce nk nr kvs rvs prs nums b dk wd tb td tw OR no ovs o3t o7t b3 b7 c3 c7 Wy tn ov dg twy := by
  unfold P17 LawRun LawOwn
  dsimp only [lawBody, lawScope, hd.o_277, hdS, List.tail_cons]
  k_fill
  intro hip B X T ch41 ch34 ch236 hE l37 l30 l234 F N d2 d6 hb0 hb1 hk0 hk1 hw0 hw1 lK lRS hpr hNO hK hR lOR hprO hov hTb hk3 hk7 hO3 hO7 G hnext
  dsimp only [kstB] at F
  have hpp : 0 < pw wd b := by have := G.o0; have := G.o1; omega
  refine wpAny_execs_cons (wpAny_toksE ?_)
  k_steps
  walk_at "my:204"
  k_steps
  refine Stop.go ?_
  rename (@LE.le Nat _ _ _) => hle1
  (try dsimp only at hle1)
  refine wpAny_execs_cons (wpAny_toksE ?_)
  k_steps
  refine Stop.go ?_
  k_dflt (refine' Spec.useDT (spec_idm w p loose mean mg mb hip ((OR, W.listOf ovs.toArray no) :: (K, W.listOf kvs.toArray nk) :: (RS, W.listOf rvs.toArray nr) :: (L + 1 + 1 + 1 + 1 + 1 + 1 + 1, o7) :: (L + 1 + 1 + 1 + 1 + 1 + 1, o6) :: (L + 1 + 1 + 1 + 1 + 1, o5) :: (L + 1 + 1 + 1 + 1, o4) :: (L + 1 + 1 + 1, o3) :: (L + 1 + 1, o2) :: (L + 1, o1) :: (234, tabObj #[rawInt 201, rawInt 41, .ref cc, rawInt 203, rawInt 41, .ref cd, rawInt 214, rawInt 60, .ref ce]) :: prs) o3t o7t (c3, b3) (c7, b7) (hTb.cons _ (by k_ne) (by k_ne)) _ _ (by omega) (G.pre2) _ _) ?k1A ?k2A ?k3A ?k4A ?k5A ?kKA ?kdA ?kuA ?_)
  (case k1A => k_asm); (case k2A => k_asm); (case k3A => k_asm); (case k4A => exact cb_drop (by k_asm) (by walk_at "my:all")); (case k5A => k_asm)
  (case kKA => exact rfl)
  (case kdA => ktr_room)
  (case kuA => ktr_units)
  intro qq zz lt tq2 tz2 o3n c3n b3n o7n c7n b7n hd tkd Fd Nd hx hz hTn hln s3 s7
  obtain ⟨rfl, rfl⟩ := divmod_is hx hz hpp G.fin (by have := G.o0; omega) G.o1
  (try dsimp only)
  have hO3n : @Ne Nat OR c3n := s3 _ (.head _) hO3.symm
  have hO7n : @Ne Nat OR c7n := s7 _ (.head _) hO7.symm
  k_steps
  rename (@LE.le Nat _ _ _) => hle2
  (try dsimp only at hle2 ⊢)
  refine' hnext _ _ _ o1 o2 o3 o4 o5 o6 o7 K RS cc cd ce nk nr kvs rvs prs nums b dk wd tb td tw OR no ovs o3n o7n b3n b7n c3n c7n Wy tn ov dg _ _ _ _ (fr_k (by k_asm) _ ?hf) (cb_drop (by k_asm) ?hn) d2 d6 hb0 hb1 hk0 hk1 hw0 hw1 lK lRS hpr hNO hK (hR.mono (fun _ h => h) fun u h => ⟨h.1, by have := h.2; omega⟩) lOR hprO hov (hTn.sub (fun q hq => .tail _ hq)) (fun q hq h1 => s3 q (.tail _ hq) (hk3 q hq h1)) (fun q hq h1 => s7 q (.tail _ hq) (hk7 q hq h1)) hO3n.symm hO7n.symm G
  (case hf => walk_at "my:ps")
  (case hn => walk_at "my:all")
end
end
end
theorem off_LP17 : True := trivial
-- LP19
theorem again_LP19 : True := by w_top off; (try walk1); trivial
section
section
open K0
section
theorem lay_34 : True := by
  k_with "my:204" => ((fail_if_success (have z9 := off_LP19)); (refine Stop.go ?_; k_dflt (refine' Spec.useI (spec_pw _ _ _ _ _ _ _ _ _ _ _ (by walk_at "my:fact") (by walk_at "my:fact") (by walk_at "my:fact") (by walk_at "my:fact")) (by k_asm) (by k_asm) (by k_asm) (by k_asm) (by k_asm) (by first | exact rfl | assumption) (by ktr_room) (by ktr_units) ?_); walk_at "my:useE"))
  k_with "call ref" => ((fail_if_success (have z9 := off_LP19)); (k_here; (with_reducible show wpAny _ _ (call (Value.ref 204) _ _) _ _ _); refine stop_here ?_))
  k_with "call ref" => ((fail_if_success (have z9 := off_LP19)); (k_here; (with_reducible show wpAny _ _ (call (Value.ref 56) _ _) _ _ _); refine stop_here ?_))
  k_with "call ref" => ((fail_if_success (have z9 := off_LP19)); (k_here; (with_reducible show wpAny _ _ (call (Value.ref 232) _ _) _ _ _); refine stop_here ?_))
  k_with "execs cons" => ((fail_if_success (have z9 := off_LP19)); (refine stop_here ?_))
  trivial
theorem c_p19 : P19 w p loose mean mg mb fa h₀ L hp gs dr tk0 os0 Q E rest u o1 o2 o3 o4 o5 o6 o7 K RS cc cd ce nk nr kvs rvs prs nums b dk wd tb td tw OR no ovs o3t o7t b3 b7 c3 c7 Wy tn ov dg twy tpy ttn tov := by
  unfold P19 LawRun LawOwn
  dsimp only [lawBody, lawScope, hd.o_277, hdS, List.tail_cons]
  k_fill
  intro B X T ch41 ch34 ch236 hE l37 l30 l234 F N d2 d6 hb0 hb1 hk0 hk1 hw0 hw1 lK lRS hpr hNO hK hR lOR hprO hov hTb hk3 hk7 hO3 hO7 G hnext
  dsimp only [kstB] at F
  have hfin := G.fin
  have hmo2 := G.mo2
  refine wpAny_execs_cons (wpAny_toksE ?_)
  k_steps
  · rename (_ ≠ _) => hne
    exact absurd hfin.symm hne
  refine Stop.go ?_
  k_dflt (refine' SpecB.useT (spec_refused w p loose mean mg mb _ _ _) ?k1A ?k2A ?k3A ?k4A ?k5A ?kKA ?kdA ?kuA ?_)
  (case k1A => k_asm); (case k2A => k_asm); (case k3A => k_asm); (case k4A => k_asm); (case k5A => k_asm)
  (case kKA => exact rfl)
  (case kdA => ktr_room)
  (case kuA => ktr_units)
  intro h5 tk5 F5 N5
  (try dsimp only)
  k_steps
  rename (@LE.le Nat _ _ _) => hle2
  (try dsimp only at hle2 ⊢)
  refine' hnext _ _ _ o1 o2 o3 o4 o5 o6 o7 K RS cc cd ce nk nr kvs rvs prs nums b dk wd tb td tw OR no ovs o3t o7t b3 b7 c3 c7 Wy tn ov dg twy tpy ttn tov (fr_k (by k_asm) _ ?hf) (cb_drop (by k_asm) ?hn) d2 d6 hb0 hb1 hk0 hk1 hw0 hw1 lK lRS hpr hNO hK (hR.mono (fun _ h => h) fun u h => ⟨h.1, by have := h.2; omega⟩) lOR hprO hov hTb hk3 hk7 hO3 hO7 G
  (case hf => walk_at "my:ps")
  (case hn => walk_at "my:all")
end
end
end
theorem off_LP19 : True := trivial
-- LP20
theorem again_LP20 : True := by w_top off; (try walk1); trivial
section
section
open K0
section
theorem lay_35 : True := by
  k_with "my:204" => ((fail_if_success (have z9 := off_LP20)); (refine Stop.go ?_; k_dflt (refine' Spec.useI (spec_pw _ _ _ _ _ _ _ _ _ _ _ (by walk_at "my:fact") (by walk_at "my:fact") (by walk_at "my:fact") (by walk_at "my:fact")) (by k_asm) (by k_asm) (by k_asm) (by k_asm) (by k_asm) (by first | exact rfl | assumption) (by ktr_room) (by ktr_units) ?_); walk_at "my:useE"))
  k_with "call ref" => ((fail_if_success (have z9 := off_LP20)); (k_here; (with_reducible show wpAny _ _ (call (Value.ref 204) _ _) _ _ _); refine stop_here ?_))
  k_with "call ref" => ((fail_if_success (have z9 := off_LP20)); (k_here; (with_reducible show wpAny _ _ (call (Value.ref 56) _ _) _ _ _); refine stop_here ?_))
  k_with "execs cons" => ((fail_if_success (have z9 := off_LP20)); (refine stop_here ?_))
  trivial
theorem c_p20 : P20 w p loose mean mg mb fa h₀ L hp gs dr tk0 os0 Q E rest u o1 o2 o3 o4 o5 o6 o7 K RS cc cd ce nk nr kvs rvs prs nums b dk wd tb td tw OR no ovs o3t o7t b3 b7 c3 c7 Wy tn ov dg twy tpy ttn tov := by
  unfold P20 LawRun LawOwn
  dsimp only [lawBody, lawScope, hd.o_277, hdS, List.tail_cons]
  k_fill
  intro hip B X T ch41 ch34 ch236 hE l37 l30 l234 F N d2 d6 hb0 hb1 hk0 hk1 hw0 hw1 lK lRS hpr hNO hK hR lOR hprO hov hTb hk3 hk7 hO3 hO7 G hnext
  dsimp only [kstB] at F
  have hfin := G.fin
  have hov0 := G.o0
  have hov1 := G.o1
  have ea : -Wy dk.toNat = (-1 - tn) * pw wd b + (pw wd b - ov) := by rw [hfin, Int.sub_mul]; omega
  have eb : Wy dk.toNat = (-1 - tn) * (-pw wd b) + (ov - pw wd b) := by rw [hfin, Int.mul_neg, Int.sub_mul]; omega
  have ec : -Wy dk.toNat = tn * (-pw wd b) + (-ov) := by rw [hfin, Int.mul_neg]; omega
  refine wpAny_execs_cons (wpAny_toksE ?_)
  k_steps
  refine Stop.go ?_
  k_dflt (refine' Spec.useDT (spec_idm w p loose mean mg mb hip ((OR, W.listOf ovs.toArray no) :: (K, W.listOf kvs.toArray nk) :: (RS, W.listOf rvs.toArray nr) :: (L + 1 + 1 + 1 + 1 + 1 + 1 + 1, o7) :: (L + 1 + 1 + 1 + 1 + 1 + 1, o6) :: (L + 1 + 1 + 1 + 1 + 1, o5) :: (L + 1 + 1 + 1 + 1, o4) :: (L + 1 + 1 + 1, o3) :: (L + 1 + 1, o2) :: (L + 1, o1) :: (234, tabObj #[rawInt 201, rawInt 41, .ref cc, rawInt 203, rawInt 41, .ref cd, rawInt 214, rawInt 60, .ref ce]) :: prs) o3t o7t (c3, b3) (c7, b7) (hTb.cons _ (by k_ne) (by k_ne)) _ _ (by omega) (G.pre2n) _ _) ?k1A ?k2A ?k3A ?k4A ?k5A ?kKA ?kdA ?kuA ?_)
  (case k1A => k_asm); (case k2A => k_asm); (case k3A => k_asm); (case k4A => exact cb_drop (by k_asm) (by walk_at "my:all")); (case k5A => k_asm)
  (case kKA => exact rfl)
  (case kdA => ktr_room)
  (case kuA => ktr_units)
  intro qq1 zz1 l1 tq1 tz1 o3t c3 b3 o7t c7 b7 hd1 tkd1 Fd1 Nd1 hx hz hTn hln s3 s7
  obtain ⟨rfl, rfl⟩ := divmod_is hx hz (by omega) ea (by omega) (by omega)
  (try dsimp only)
  have hO3x : @Ne Nat OR c3 := s3 _ (.head _) hO3.symm
  have hO7x : @Ne Nat OR c7 := s7 _ (.head _) hO7.symm
  have hk3x : ∀ q ∈ ((K, W.listOf kvs.toArray nk) :: (RS, W.listOf rvs.toArray nr) :: (L + 1 + 1 + 1 + 1 + 1 + 1 + 1, o7) :: (L + 1 + 1 + 1 + 1 + 1 + 1, o6) :: (L + 1 + 1 + 1 + 1 + 1, o5) :: (L + 1 + 1 + 1 + 1, o4) :: (L + 1 + 1 + 1, o3) :: (L + 1 + 1, o2) :: (L + 1, o1) :: (234, tabObj #[rawInt 201, rawInt 41, .ref cc, rawInt 203, rawInt 41, .ref cd, rawInt 214, rawInt 60, .ref ce]) :: prs : List (Addr × Obj)), q.1 ≠ L + 1 → q.1 ≠ c3 := fun q hq h1 => s3 q (.tail _ hq) (hk3 q hq h1)
  have hk7x : ∀ q ∈ ((K, W.listOf kvs.toArray nk) :: (RS, W.listOf rvs.toArray nr) :: (L + 1 + 1 + 1 + 1 + 1 + 1 + 1, o7) :: (L + 1 + 1 + 1 + 1 + 1 + 1, o6) :: (L + 1 + 1 + 1 + 1 + 1, o5) :: (L + 1 + 1 + 1 + 1, o4) :: (L + 1 + 1 + 1, o3) :: (L + 1 + 1, o2) :: (L + 1, o1) :: (234, tabObj #[rawInt 201, rawInt 41, .ref cc, rawInt 203, rawInt 41, .ref cd, rawInt 214, rawInt 60, .ref ce]) :: prs : List (Addr × Obj)), q.1 ≠ L + 1 → q.1 ≠ c7 := fun q hq h1 => s7 q (.tail _ hq) (hk7 q hq h1)
  have hTb := hTn.sub (news' := (K, W.listOf kvs.toArray nk) :: (RS, W.listOf rvs.toArray nr) :: (L + 1 + 1 + 1 + 1 + 1 + 1 + 1, o7) :: (L + 1 + 1 + 1 + 1 + 1 + 1, o6) :: (L + 1 + 1 + 1 + 1 + 1, o5) :: (L + 1 + 1 + 1 + 1, o4) :: (L + 1 + 1 + 1, o3) :: (L + 1 + 1, o2) :: (L + 1, o1) :: (234, tabObj #[rawInt 201, rawInt 41, .ref cc, rawInt 203, rawInt 41, .ref cd, rawInt 214, rawInt 60, .ref ce]) :: prs) (fun q hq => (.tail _ hq))
  have hO3 := hO3x.symm
  have hO7 := hO7x.symm
  have hk3 := hk3x
  have hk7 := hk7x
  have n301 : @Ne Nat 30 l1 := hln _ (.head _)
  have n371 : @Ne Nat 37 l1 := hln _ (.tail _ (.tail _ (.head _)))
  k_steps
  refine Stop.go ?_
  k_dflt (refine' Spec.useDT (spec_idm w p loose mean mg mb hip ((l1, tup2 (-1 - tn) (pw wd b - ov) tq1 tz1) :: (OR, W.listOf ovs.toArray no) :: (K, W.listOf kvs.toArray nk) :: (RS, W.listOf rvs.toArray nr) :: (L + 1 + 1 + 1 + 1 + 1 + 1 + 1, o7) :: (L + 1 + 1 + 1 + 1 + 1 + 1, o6) :: (L + 1 + 1 + 1 + 1 + 1, o5) :: (L + 1 + 1 + 1 + 1, o4) :: (L + 1 + 1 + 1, o3) :: (L + 1 + 1, o2) :: (L + 1, o1) :: (234, tabObj #[rawInt 201, rawInt 41, .ref cc, rawInt 203, rawInt 41, .ref cd, rawInt 214, rawInt 60, .ref ce]) :: prs) o3t o7t (c3, b3) (c7, b7) ((hTb.cons _ (by k_ne) (by k_ne)).cons _ (by k_ne) (by k_ne)) _ _ (by omega) (G.pre2m) _ _) ?k1B ?k2B ?k3B ?k4B ?k5B ?kKB ?kdB ?kuB ?_)
  (case k1B => k_asm); (case k2B => k_asm); (case k3B => k_asm); (case k4B => exact cb_drop (by k_asm) (by walk_at "my:all")); (case k5B => k_asm)
  (case kKB => exact rfl)
  (case kdB => ktr_room)
  (case kuB => ktr_units)
  intro qq2 zz2 l2 tq2 tz2 o3t c3 b3 o7t c7 b7 hd2 tkd2 Fd2 Nd2 hx hz hTn hln s3 s7
  obtain ⟨rfl, rfl⟩ := divmod_neg hx hz (by omega) eb (by omega) (by omega) 
  (try dsimp only)
  have hO3x : @Ne Nat OR c3 := s3 _ (.tail _ (.head _)) hO3.symm
  have hO7x : @Ne Nat OR c7 := s7 _ (.tail _ (.head _)) hO7.symm
  have hk3x : ∀ q ∈ ((K, W.listOf kvs.toArray nk) :: (RS, W.listOf rvs.toArray nr) :: (L + 1 + 1 + 1 + 1 + 1 + 1 + 1, o7) :: (L + 1 + 1 + 1 + 1 + 1 + 1, o6) :: (L + 1 + 1 + 1 + 1 + 1, o5) :: (L + 1 + 1 + 1 + 1, o4) :: (L + 1 + 1 + 1, o3) :: (L + 1 + 1, o2) :: (L + 1, o1) :: (234, tabObj #[rawInt 201, rawInt 41, .ref cc, rawInt 203, rawInt 41, .ref cd, rawInt 214, rawInt 60, .ref ce]) :: prs : List (Addr × Obj)), q.1 ≠ L + 1 → q.1 ≠ c3 := fun q hq h1 => s3 q (.tail _ (.tail _ hq)) (hk3 q hq h1)
  have hk7x : ∀ q ∈ ((K, W.listOf kvs.toArray nk) :: (RS, W.listOf rvs.toArray nr) :: (L + 1 + 1 + 1 + 1 + 1 + 1 + 1, o7) :: (L + 1 + 1 + 1 + 1 + 1 + 1, o6) :: (L + 1 + 1 + 1 + 1 + 1, o5) :: (L + 1 + 1 + 1 + 1, o4) :: (L + 1 + 1 + 1, o3) :: (L + 1 + 1, o2) :: (L + 1, o1) :: (234, tabObj #[rawInt 201, rawInt 41, .ref cc, rawInt 203, rawInt 41, .ref cd, rawInt 214, rawInt 60, .ref ce]) :: prs : List (Addr × Obj)), q.1 ≠ L + 1 → q.1 ≠ c7 := fun q hq h1 => s7 q (.tail _ (.tail _ hq)) (hk7 q hq h1)
  have hTb := hTn.sub (news' := (K, W.listOf kvs.toArray nk) :: (RS, W.listOf rvs.toArray nr) :: (L + 1 + 1 + 1 + 1 + 1 + 1 + 1, o7) :: (L + 1 + 1 + 1 + 1 + 1 + 1, o6) :: (L + 1 + 1 + 1 + 1 + 1, o5) :: (L + 1 + 1 + 1 + 1, o4) :: (L + 1 + 1 + 1, o3) :: (L + 1 + 1, o2) :: (L + 1, o1) :: (234, tabObj #[rawInt 201, rawInt 41, .ref cc, rawInt 203, rawInt 41, .ref cd, rawInt 214, rawInt 60, .ref ce]) :: prs) (fun q hq => (.tail _ (.tail _ hq)))
  have hO3 := hO3x.symm
  have hO7 := hO7x.symm
  have hk3 := hk3x
  have hk7 := hk7x
  have n302 : @Ne Nat 30 l2 := hln _ (.head _)
  have n372 : @Ne Nat 37 l2 := hln _ (.tail _ (.tail _ (.head _)))
  k_steps
  refine Stop.go ?_
  k_dflt (refine' Spec.useDT (spec_idm w p loose mean mg mb hip ((l2, tup2 (-1 - tn) (ov - pw wd b) tq2 tz2) :: (l1, tup2 (-1 - tn) (pw wd b - ov) tq1 tz1) :: (OR, W.listOf ovs.toArray no) :: (K, W.listOf kvs.toArray nk) :: (RS, W.listOf rvs.toArray nr) :: (L + 1 + 1 + 1 + 1 + 1 + 1 + 1, o7) :: (L + 1 + 1 + 1 + 1 + 1 + 1, o6) :: (L + 1 + 1 + 1 + 1 + 1, o5) :: (L + 1 + 1 + 1 + 1, o4) :: (L + 1 + 1 + 1, o3) :: (L + 1 + 1, o2) :: (L + 1, o1) :: (234, tabObj #[rawInt 201, rawInt 41, .ref cc, rawInt 203, rawInt 41, .ref cd, rawInt 214, rawInt 60, .ref ce]) :: prs) o3t o7t (c3, b3) (c7, b7) (((hTb.cons _ (by k_ne) (by k_ne)).cons _ (by k_ne) (by k_ne)).cons _ (by k_ne) (by k_ne)) _ _ (by omega) (G.pre2q) _ _) ?k1C ?k2C ?k3C ?k4C ?k5C ?kKC ?kdC ?kuC ?_)
  (case k1C => k_asm); (case k2C => k_asm); (case k3C => k_asm); (case k4C => exact cb_drop (by k_asm) (by walk_at "my:all")); (case k5C => k_asm)
  (case kKC => exact rfl)
  (case kdC => ktr_room)
  (case kuC => ktr_units)
  intro qq3 zz3 l3 tq3 tz3 o3t c3 b3 o7t c7 b7 hd3 tkd3 Fd3 Nd3 hx hz hTn hln s3 s7
  obtain ⟨rfl, rfl⟩ := divmod_neg hx hz (by omega) ec (by omega) (by omega) 
  (try dsimp only)
  have hO3x : @Ne Nat OR c3 := s3 _ (.tail _ (.tail _ (.head _))) hO3.symm
  have hO7x : @Ne Nat OR c7 := s7 _ (.tail _ (.tail _ (.head _))) hO7.symm
  have hk3x : ∀ q ∈ ((K, W.listOf kvs.toArray nk) :: (RS, W.listOf rvs.toArray nr) :: (L + 1 + 1 + 1 + 1 + 1 + 1 + 1, o7) :: (L + 1 + 1 + 1 + 1 + 1 + 1, o6) :: (L + 1 + 1 + 1 + 1 + 1, o5) :: (L + 1 + 1 + 1 + 1, o4) :: (L + 1 + 1 + 1, o3) :: (L + 1 + 1, o2) :: (L + 1, o1) :: (234, tabObj #[rawInt 201, rawInt 41, .ref cc, rawInt 203, rawInt 41, .ref cd, rawInt 214, rawInt 60, .ref ce]) :: prs : List (Addr × Obj)), q.1 ≠ L + 1 → q.1 ≠ c3 := fun q hq h1 => s3 q (.tail _ (.tail _ (.tail _ hq))) (hk3 q hq h1)
  have hk7x : ∀ q ∈ ((K, W.listOf kvs.toArray nk) :: (RS, W.listOf rvs.toArray nr) :: (L + 1 + 1 + 1 + 1 + 1 + 1 + 1, o7) :: (L + 1 + 1 + 1 + 1 + 1 + 1, o6) :: (L + 1 + 1 + 1 + 1 + 1, o5) :: (L + 1 + 1 + 1 + 1, o4) :: (L + 1 + 1 + 1, o3) :: (L + 1 + 1, o2) :: (L + 1, o1) :: (234, tabObj #[rawInt 201, rawInt 41, .ref cc, rawInt 203, rawInt 41, .ref cd, rawInt 214, rawInt 60, .ref ce]) :: prs : List (Addr × Obj)), q.1 ≠ L + 1 → q.1 ≠ c7 := fun q hq h1 => s7 q (.tail _ (.tail _ (.tail _ hq))) (hk7 q hq h1)
  have hTb := hTn.sub (news' := (K, W.listOf kvs.toArray nk) :: (RS, W.listOf rvs.toArray nr) :: (L + 1 + 1 + 1 + 1 + 1 + 1 + 1, o7) :: (L + 1 + 1 + 1 + 1 + 1 + 1, o6) :: (L + 1 + 1 + 1 + 1 + 1, o5) :: (L + 1 + 1 + 1 + 1, o4) :: (L + 1 + 1 + 1, o3) :: (L + 1 + 1, o2) :: (L + 1, o1) :: (234, tabObj #[rawInt 201, rawInt 41, .ref cc, rawInt 203, rawInt 41, .ref cd, rawInt 214, rawInt 60, .ref ce]) :: prs) (fun q hq => (.tail _ (.tail _ (.tail _ hq))))
  have hO3 := hO3x.symm
  have hO7 := hO7x.symm
  have hk3 := hk3x
  have hk7 := hk7x
  have n303 : @Ne Nat 30 l3 := hln _ (.head _)
  have n373 : @Ne Nat 37 l3 := hln _ (.tail _ (.tail _ (.head _)))
  k_steps
  refine Stop.go ?_
  rename (@LE.le Nat _ _ _) => hle1
  (try dsimp only at hle1)
  refine wpAny_execs_cons (wpAny_toksE ?_)
  k_steps
  rename (@LE.le Nat _ _ _) => hle2
  (try dsimp only at hle2 ⊢)
  refine' hnext _ _ _ o1 o2 o3 o4 o5 o6 o7 K RS cc cd ce nk nr kvs rvs prs nums b dk wd tb td tw OR no ovs o3t o7t b3 b7 c3 c7 Wy _ ov dg twy tpy ttn tov (fr_k (by k_asm) _ ?hf) (cb_drop (by k_asm) ?hn) d2 d6 hb0 hb1 hk0 hk1 hw0 hw1 lK lRS hpr hNO hK (hR.mono (fun _ h => h) fun u h => ⟨h.1, by have := h.2; omega⟩) lOR hprO hov hTb hk3 hk7 hO3 hO7 G
  (case hf => walk_at "my:ps")
  (case hn => walk_at "my:all")
end
end
end
theorem off_LP20 : True := trivial
-- LP22
theorem again_LP22 : True := by w_top off; (try walk1); trivial
section
section
open K0
section
theorem lay_36 : True := by
  k_with "my:204" => ((fail_if_success (have z9 := off_LP22)); (refine Stop.go ?_; k_dflt (refine' Spec.useI (spec_pw _ _ _ _ _ _ _ _ _ _ _ (by walk_at "my:fact") (by walk_at "my:fact") (by walk_at "my:fact") (by walk_at "my:fact")) (by k_asm) (by k_asm) (by k_asm) (by k_asm) (by k_asm) (by first | exact rfl | assumption) (by ktr_room) (by ktr_units) ?_); walk_at "my:useE"))
  k_with "call ref" => ((fail_if_success (have z9 := off_LP22)); (k_here; (with_reducible show wpAny _ _ (call (Value.ref 204) _ _) _ _ _); refine stop_here ?_))
  k_with "call ref" => ((fail_if_success (have z9 := off_LP22)); (k_here; (with_reducible show wpAny _ _ (call (Value.ref 56) _ _) _ _ _); refine stop_here ?_))
  k_with "execs cons" => ((fail_if_success (have z9 := off_LP22)); (refine stop_here ?_))
  trivial
theorem c_p22 : P22 w p loose mean mg mb fa h₀ L hp gs dr tk0 os0 Q E rest u o1 o2 o3 o4 o5 o6 o7 K RS cc cd ce nk nr kvs rvs prs nums b dk wd tb td tw OR no ovs o3t o7t b3 b7 c3 c7 Wy tn ov dg twy tpy ttn tov := by
  unfold P22 LawRun LawOwn
  dsimp only [lawBody, lawScope, hd.o_277, hdS, List.tail_cons]
  k_fill
  intro hip B X T ch41 ch34 ch236 hE l37 l30 l234 F N d2 d6 hb0 hb1 hk0 hk1 hw0 hw1 lK lRS hpr hNO hK hR lOR hprO hov hTb hk3 hk7 hO3 hO7 G hnext
  dsimp only [kstB] at F
  have hov0 := G.o0
  have hov1 := G.o1
  have hmo3 := G.mo3
  have hpp2 : 2 ≤ pw wd b := by omega
  have ea : pw wd b * pw wd b - 1 = (pw wd b - 1) * pw wd b + (pw wd b - 1) := by rw [Int.sub_mul]; omega
  refine wpAny_execs_cons (wpAny_toksE ?_)
  k_steps
  refine Stop.go ?_
  k_dflt (refine' Spec.useDT (spec_idm w p loose mean mg mb hip ((OR, W.listOf ovs.toArray no) :: (K, W.listOf kvs.toArray nk) :: (RS, W.listOf rvs.toArray nr) :: (L + 1 + 1 + 1 + 1 + 1 + 1 + 1, o7) :: (L + 1 + 1 + 1 + 1 + 1 + 1, o6) :: (L + 1 + 1 + 1 + 1 + 1, o5) :: (L + 1 + 1 + 1 + 1, o4) :: (L + 1 + 1 + 1, o3) :: (L + 1 + 1, o2) :: (L + 1, o1) :: (234, tabObj #[rawInt 201, rawInt 41, .ref cc, rawInt 203, rawInt 41, .ref cd, rawInt 214, rawInt 60, .ref ce]) :: prs) o3t o7t (c3, b3) (c7, b7) (hTb.cons _ (by k_ne) (by k_ne)) _ _ (by omega) (G.pre3) _ _) ?k1A ?k2A ?k3A ?k4A ?k5A ?kKA ?kdA ?kuA ?_)
  (case k1A => k_asm); (case k2A => k_asm); (case k3A => k_asm); (case k4A => exact cb_drop (by k_asm) (by walk_at "my:all")); (case k5A => k_asm)
  (case kKA => exact rfl)
  (case kdA => ktr_room)
  (case kuA => ktr_units)
  intro qq1 zz1 l1 tq1 tz1 o3t c3 b3 o7t c7 b7 hd1 tkd1 Fd1 Nd1 hx hz hTn hln s3 s7
  obtain ⟨rfl, rfl⟩ := divmod_is hx hz (by omega) ea (by omega) (by omega)
  (try dsimp only)
  have hO3x : @Ne Nat OR c3 := s3 _ (.head _) hO3.symm
  have hO7x : @Ne Nat OR c7 := s7 _ (.head _) hO7.symm
  have hk3x : ∀ q ∈ ((K, W.listOf kvs.toArray nk) :: (RS, W.listOf rvs.toArray nr) :: (L + 1 + 1 + 1 + 1 + 1 + 1 + 1, o7) :: (L + 1 + 1 + 1 + 1 + 1 + 1, o6) :: (L + 1 + 1 + 1 + 1 + 1, o5) :: (L + 1 + 1 + 1 + 1, o4) :: (L + 1 + 1 + 1, o3) :: (L + 1 + 1, o2) :: (L + 1, o1) :: (234, tabObj #[rawInt 201, rawInt 41, .ref cc, rawInt 203, rawInt 41, .ref cd, rawInt 214, rawInt 60, .ref ce]) :: prs : List (Addr × Obj)), q.1 ≠ L + 1 → q.1 ≠ c3 := fun q hq h1 => s3 q (.tail _ hq) (hk3 q hq h1)
  have hk7x : ∀ q ∈ ((K, W.listOf kvs.toArray nk) :: (RS, W.listOf rvs.toArray nr) :: (L + 1 + 1 + 1 + 1 + 1 + 1 + 1, o7) :: (L + 1 + 1 + 1 + 1 + 1 + 1, o6) :: (L + 1 + 1 + 1 + 1 + 1, o5) :: (L + 1 + 1 + 1 + 1, o4) :: (L + 1 + 1 + 1, o3) :: (L + 1 + 1, o2) :: (L + 1, o1) :: (234, tabObj #[rawInt 201, rawInt 41, .ref cc, rawInt 203, rawInt 41, .ref cd, rawInt 214, rawInt 60, .ref ce]) :: prs : List (Addr × Obj)), q.1 ≠ L + 1 → q.1 ≠ c7 := fun q hq h1 => s7 q (.tail _ hq) (hk7 q hq h1)
  have hTb := hTn.sub (news' := (K, W.listOf kvs.toArray nk) :: (RS, W.listOf rvs.toArray nr) :: (L + 1 + 1 + 1 + 1 + 1 + 1 + 1, o7) :: (L + 1 + 1 + 1 + 1 + 1 + 1, o6) :: (L + 1 + 1 + 1 + 1 + 1, o5) :: (L + 1 + 1 + 1 + 1, o4) :: (L + 1 + 1 + 1, o3) :: (L + 1 + 1, o2) :: (L + 1, o1) :: (234, tabObj #[rawInt 201, rawInt 41, .ref cc, rawInt 203, rawInt 41, .ref cd, rawInt 214, rawInt 60, .ref ce]) :: prs) (fun q hq => (.tail _ hq))
  have hO3 := hO3x.symm
  have hO7 := hO7x.symm
  have hk3 := hk3x
  have hk7 := hk7x
  have n301 : @Ne Nat 30 l1 := hln _ (.head _)
  have n371 : @Ne Nat 37 l1 := hln _ (.tail _ (.tail _ (.head _)))
  k_steps
  rename (@LE.le Nat _ _ _) => hle2
  (try dsimp only at hle2 ⊢)
  refine' hnext _ _ _ o1 o2 o3 o4 o5 o6 o7 K RS cc cd ce nk nr kvs rvs prs nums b dk wd tb td tw OR no ovs o3t o7t b3 b7 c3 c7 Wy tn ov dg twy tpy ttn tov (fr_k (by k_asm) _ ?hf) (cb_drop (by k_asm) ?hn) d2 d6 hb0 hb1 hk0 hk1 hw0 hw1 lK lRS hpr hNO hK (hR.mono (fun _ h => h) fun u h => ⟨h.1, by have := h.2; omega⟩) lOR hprO hov hTb hk3 hk7 hO3 hO7 G
  (case hf => walk_at "my:ps")
  (case hn => walk_at "my:all")
end
end
end
theorem off_LP22 : True := trivial
-- LP23
theorem again_LP23 : True := by w_top off; (try walk1); trivial
section
section
open K0
theorem tab_is {l c : Nat} {q : Str} {o : Obj} {k : Addr × Obj} (h : Tab l c q o k) : ∃ ps, o = tabObj ps := by
  cases h with
  | none k => exact ⟨_, rfl⟩
  | one c oc vs t _ _ => exact ⟨_, rfl⟩
section
theorem lay_37 : True := by
  k_with "my:204" => ((fail_if_success (have z9 := off_LP23)); (refine Stop.go ?_; k_dflt (refine' Spec.useI (spec_pw _ _ _ _ _ _ _ _ _ _ _ (by walk_at "my:fact") (by walk_at "my:fact") (by walk_at "my:fact") (by walk_at "my:fact")) (by k_asm) (by k_asm) (by k_asm) (by k_asm) (by k_asm) (by first | exact rfl | assumption) (by ktr_room) (by ktr_units) ?_); walk_at "my:useE"))
  k_with "call ref" => ((fail_if_success (have z9 := off_LP23)); (k_here; (with_reducible show wpAny _ _ (call (Value.ref 204) _ _) _ _ _); refine stop_here ?_))
  k_with "call ref" => ((fail_if_success (have z9 := off_LP23)); (k_here; (with_reducible show wpAny _ _ (call (Value.ref 56) _ _) _ _ _); refine stop_here ?_))
  k_with "call ref" => ((fail_if_success (have z9 := off_LP23)); (k_here; (with_reducible show wpAny _ _ (call (Value.ref 35) _ _) _ _ _); refine stop_here ?_))
  k_with "call builtin:len" => ((fail_if_success (have z9 := off_LP23)); (refine len_at (by k_asm) (by k_mem) (by omega) ?_))
  k_with "execs cons" => ((fail_if_success (have z9 := off_LP23)); (refine stop_here ?_))
  k_with "compareOp NotEq ref ref" => ((fail_if_success (have z9 := off_LP23)); (refine stop_here ?_))
  trivial
theorem c_p23 : P23 w p loose mean mg mb fa h₀ L hp gs dr tk0 os0 Q E rest u o1 o2 o3 o4 o5 o6 o7 K RS cc cd ce nk nr kvs rvs prs nums b dk wd tb td tw OR no ovs o3t o7t b3 b7 c3 c7 Wy tn ov dg twy tpy ttn tov := by
  unfold P23 LawRun LawOwn
  dsimp only [lawBody, lawScope, hd.o_277, hdS, List.tail_cons]
  k_fill
  intro B X T ch41 ch34 ch236 hE l37 l30 l234 F N d2 d6 hb0 hb1 hk0 hk1 hw0 hw1 lK lRS hpr hNO hK hR lOR hprO hov hTb hk3 hk7 hO3 hO7 G hnext
  dsimp only [kstB] at F
  have hov0 := G.o0
  have hov1 := G.o1
  have hdl : dg.length = b.toNat := by rw [← G.dd]; exact digs_length _ _ _
  refine wpAny_execs_cons (wpAny_toksE ?_)
  k_steps
  refine Stop.go ?_
  k_dflt (refine' Spec.useTL (spec_i2d w p loose mean mg mb ((37, o7t) :: (c7, b7) :: (OR, W.listOf ovs.toArray no) :: (K, W.listOf kvs.toArray nk) :: (RS, W.listOf rvs.toArray nr) :: (L + 1 + 1 + 1 + 1 + 1 + 1 + 1, o7) :: (L + 1 + 1 + 1 + 1 + 1 + 1, o6) :: (L + 1 + 1 + 1 + 1 + 1, o5) :: (L + 1 + 1 + 1 + 1, o4) :: (L + 1 + 1 + 1, o3) :: (L + 1 + 1, o2) :: (L + 1, o1) :: (234, tabObj #[rawInt 201, rawInt 41, .ref cc, rawInt 203, rawInt 41, .ref cd, rawInt 214, rawInt 60, .ref ce]) :: prs) o3t (c3, b3) hTb.t3 hTb.k33 ?hA ov wd b _ _ hov0 (by omega) (by omega) G.dc (by omega) (by omega) G.dlt) ?k1A ?k2A ?k3A ?k4A ?k5A ?kKA ?kdA ?kuA ?_)
  (case hA => exact List.forall_mem_cons.mpr ⟨by k_ne, List.forall_mem_cons.mpr ⟨hTb.k73, List.forall_mem_cons.mpr ⟨by k_ne, hTb.n30⟩⟩⟩)
  (case k1A => k_asm); (case k2A => k_asm); (case k3A => k_asm); (case k4A => exact cb_drop (by k_asm) (by walk_at "my:all")); (case k5A => k_asm)
  (case kKA => exact rfl)
  (case kdA => ktr_room)
  (case kuA => ktr_units)
  intro DG us o3n c3n b3n h5 tk5 F5 N5 hus hT5 hc5 hl5 hP5 hcl5 hk5
  rw [G.dd] at hus
  (try dsimp only)
  have hul := hus.length
  have n30 : @Ne Nat 30 DG := Nat.ne_of_lt hP5
  have lDG : @LT.lt Nat _ OR DG := hl5 (OR, W.listOf ovs.toArray no) (.tail _ (.tail _ (.head _)))
  have n37 : @LT.lt Nat _ 37 DG := hl5 (37, o7t) (.head _)
  k_steps
  refine Stop.go ?_
  rename (@LE.le Nat _ _ _) => hle1
  (try dsimp only at hle1)
  refine wpAny_execs_cons (wpAny_toksE ?_)
  k_steps
  · exfalso
    omega
  refine Stop.go ?_
  have l30 : @LT.lt Nat _ 30 DG := hP5
  k_dflt (refine' Spec.useTL (spec_i2d w p loose mean mg mb ((37, o7t) :: (c7, b7) :: (DG, W.listOf us.toArray 0) :: (OR, W.listOf ovs.toArray no) :: (K, W.listOf kvs.toArray nk) :: (RS, W.listOf rvs.toArray nr) :: (L + 1 + 1 + 1 + 1 + 1 + 1 + 1, o7) :: (L + 1 + 1 + 1 + 1 + 1 + 1, o6) :: (L + 1 + 1 + 1 + 1 + 1, o5) :: (L + 1 + 1 + 1 + 1, o4) :: (L + 1 + 1 + 1, o3) :: (L + 1 + 1, o2) :: (L + 1, o1) :: (234, tabObj #[rawInt 201, rawInt 41, .ref cc, rawInt 203, rawInt 41, .ref cd, rawInt 214, rawInt 60, .ref ce]) :: prs) o3n (c3n, b3n) hT5 hc5 ?hB (pw wd b) wd b _ _ (by omega) (by omega) (by omega) G.pc (by omega) (by omega) G.plt) ?k1B ?k2B ?k3B ?k4B ?k5B ?kKB ?kdB ?kuB ?_)
  (case hB => exact List.forall_mem_cons.mpr ⟨by k_ne, List.forall_mem_cons.mpr ⟨hTb.k73, List.forall_mem_cons.mpr ⟨by k_ne, List.forall_mem_cons.mpr ⟨by k_ne, hTb.n30⟩⟩⟩⟩)
  (case k1B => k_asm); (case k2B => k_asm); (case k3B => k_asm); (case k4B => exact cb_drop (by k_asm) (by walk_at "my:all")); (case k5B => k_asm)
  (case kKB => exact rfl)
  (case kdB => ktr_room)
  (case kuB => ktr_units)
  intro PG us2 o3m c3m b3m h6 tk6 F6 N6 hus2 hT6 hc6 hl6 hP6 hcl6 hk6
  rw [G.pd] at hus2
  (try dsimp only)
  have m30 : @Ne Nat 30 PG := Nat.ne_of_lt hP6
  k_steps
  walk_at "my:204"
  k_steps
  refine Stop.go ?_
  rename News _ _ _ _ => NF
  refine ne_ints (NF (_, _) (by k_mem)).1 (NF _ (.head _)).1 hus2 (ints_flat _ _ _) (by ktr_units) ?_
  k_steps
  rename (@LE.le Nat _ _ _) => hle2
  (try dsimp only at hle2 ⊢)
  refine' hnext _ _ _ o1 o2 o3 o4 o5 o6 o7 K RS cc cd ce nk nr kvs rvs prs nums b dk wd tb td tw OR no ovs o3m o7t b3 b7 c3 c7 Wy tn ov dg twy tpy ttn tov DG _ us (fr_k (by k_asm) _ ?hf) (cb_drop (by k_asm) ?hn) d2 d6 hb0 hb1 hk0 hk1 hw0 hw1 lK lRS hpr hNO hK (hR.mono (fun _ h => h) fun u h => ⟨h.1, by have := h.2; omega⟩) lOR hprO hov G hus lDG (tab_is hT6) (tab_is hTb.t7)
  (case hf => walk_at "my:ps")
  (case hn => walk_at "my:all")
end
end
end
theorem off_LP23 : True := trivial
-- LP25
theorem again_LP25 : True := by w_top off; (try walk1); trivial
section
section
open K0
section
theorem lay_38 : True := by
  k_with "my:pm" => ((fail_if_success (have z9 := off_LP25)); (repeat (first | assumption | apply List.mem_cons_of_mem)))
  k_with "call ref" => ((fail_if_success (have z9 := off_LP25)); (k_here; (with_reducible show wpAny _ _ (call (Value.ref 197) _ _) _ _ _); refine stop_here ?_))
  k_with "call ref" => ((fail_if_success (have z9 := off_LP25)); (k_here; (with_reducible show wpAny _ _ (call (Value.ref 225) _ _) _ _ _); refine stop_here ?_))
  k_with "execs cons" => ((fail_if_success (have z9 := off_LP25)); (refine stop_here ?_))
  k_with "exec Assign cons ListComp" => ((fail_if_success (have z9 := off_LP25)); (refine stop_here ?_))
  k_with "CompSrc" => ((fail_if_success (have z9 := off_LP25)); (refine stop_here ?_))
  trivial
theorem c_p25 : P25 w p loose mean mg mb fa h₀ L hp gs dr tk0 os0 Q E rest u o1 o2 o3 o4 o5 o6 o7 K RS cc cd ce nk nr kvs rvs prs nums b dk wd tb td tw OR no ovs o3t o7t b3 b7 c3 c7 Wy tn ov dg twy tpy ttn tov DG nd dvs := by
  unfold P25 LawRun LawOwn
  dsimp only [lawBody, lawScope, hd.o_277, hdS, List.tail_cons]
  k_fill
  intro B X T ch41 ch34 ch236 hE l37 l30 l234 F N d2 d6 hb0 hb1 hk0 hk1 hw0 hw1 lK lRS hpr hNO hK hR lOR hprO hov G hdv lDG g3 g7 hnext
  dsimp only [kstB] at F
  have hrl := hR.length
  rw [rests_length] at hrl
  have hr20 := (rings_facts hb0 hb1 hk0 hk1).2.1
  refine wpAny_execs_cons (wpAny_toksE ?_)
  k_steps
  refine Stop.go ?_
  refine LCg.Assign_ListComp_U (by k_asm) rfl (by with_unfolding_all rfl) (by with_unfolding_all rfl) (by decide) (by rfl) (by decide) (by rfl) (by with_unfolding_all rfl) (by with_unfolding_all rfl) ?_
  k_steps
  refine Stop.go ?_
  rename News _ _ _ _ => NA
  rename Fr _ _ _ _ => FA
  refine LCg.CompSrc.ledger (its := rvs.toArray) (k := nr) rfl FA NA (by k_mem) (by rw [List.size_toArray, sizeLine_eq]; omega) fun g => ?_
  refine' rest_go (vs := rvs) (fun rest ys => RowW tk0 prs (restsOf b dk nums (ringsOf b dk)) rest ys) ?hS ?turn ?fin rvs.length 0 rvs [] rfl rfl ⟨⟨[], _, rfl, hR, IntsAre.nil⟩, fun k t h => absurd h List.not_mem_nil⟩
  (case hS => exact .inr ⟨_, by k_mem, rfl, _, rfl⟩)
  (case turn =>
    rintro v r ys I oI C oC Dn m₂ h8 tk8 E8 ⟨⟨don, ps, hdp, hrp, hys⟩, htk⟩ hns hx F8 N8 off ne
    obtain ⟨pa, x, y, t, uu, pn, ps', rfl, rfl, hpm, hTu, hrp'⟩ := pairs_cons hrp
    dsimp only at F8 N8 ⊢
    k_steps
    refine Stop.go ?_
    k_dflt (refine' Spec.useV (spec_tailV w p loose mean mg mb _ pa (.int x t) (.int y uu) pn ?hpn) ?k1A ?k2A ?k3A ?k4A ?k5A ?kKA ?kdA ?kuA ?_)
    (case k1A => k_asm); (case k2A => k_asm); (case k3A => k_asm); (case k4A => k_asm); (case k5A => k_asm)
    (case kKA => exact rfl)
    (case kdA => ktr_room)
    (case kuA => ktr_units)
    (case hpn => walk_at "my:pm")
    intro h5 tk5 le5 F5 N5
    (try dsimp only)
    k_steps
    refine CEnd.mk (by k_asm) (by k_asm) (fun _ h => h) ⟨⟨don ++ [(x, y)], ps', by rw [List.append_assoc]; exact hdp, hrp', by rw [List.map_append]; exact hys.append (IntsAre.cons _ _ IntsAre.nil)⟩, fun k t' hm => ?_⟩
    rcases List.mem_append.mp hm with hm | hm
    · exact htk k t' hm
    · cases List.mem_singleton.mp hm
      exact hTu)
  (case fin =>
    rintro row ⟨⟨don, ps, hdp, hrp, hrow⟩, htk⟩ RW h8 tk8 F8 N8 off8
    have hps : ps = [] := by cases hrp; rfl
    subst hps
    rw [List.append_nil] at hdp
    subst hdp
    (try dsimp only at F8 N8 ⊢)
    have hRW6 : @Ne Nat RW (L + 1 + 1 + 1 + 1 + 1 + 1) := off8.2.2.2.2.2.2.2.1.symm
    k_steps
    refine Stop.go ?_
    rename (@LE.le Nat _ _ _) => hle1
    (try dsimp only at hle1)
    refine wpAny_execs_cons (wpAny_toksE ?_)
    k_steps
    refine Stop.go ?_
    k_dflt (refine' Spec.useL (spec_cnts w p loose mean mg mb _ RW row _ _ ?hmB hrow b _ (by omega) (by omega) (row_range b dk nums (by omega) _)) ?k1B ?k2B ?k3B ?k4B ?k5B ?kKB ?kdB ?kuB ?_)
    (case k1B => k_asm); (case k2B => k_asm); (case k3B => k_asm); (case k4B => k_asm); (case k5B => k_asm)
    (case kKB => exact rfl)
    (case kdB => ktr_room)
    (case kuB => ktr_units)
    (case hmB => exact List.Mem.head _)
    intro TL tvs nt h6 tk6 F6 N6 htv l6
    (try dsimp only)
    have lTL := l6 _ (.head _)
    k_steps
    rename (@LE.le Nat _ _ _) => hle2
    (try dsimp only at hle2 ⊢)
    refine' hnext _ _ _ o1 o2 o3 o4 o5 o6 o7 K RS cc cd ce nk nr kvs rvs prs nums b dk wd tb td tw OR no ovs o3t o7t b3 b7 c3 c7 Wy tn ov dg twy tpy ttn tov DG nd dvs RW TL _ _ row tvs (fr_k (by k_asm) _ ?hf) (cb_drop (by k_asm) ?hn) d2 d6 hb0 hb1 hk0 hk1 hw0 hw1 lK lRS hpr hNO hK (hR.mono (fun _ h => h) fun u h => ⟨h.1, by have := h.2; omega⟩) lOR hprO hov G hdv lDG g3 g7 hRW6 (l6 (L + 1 + 1 + 1 + 1 + 1 + 1, o6) (by k_mem)) lTL hrow (fun k t h => ⟨(htk k t h).1, by have := (htk k t h).2; omega⟩) htv
    (case hf => walk_at "my:ps")
    (case hn => walk_at "my:all"))
end
end
end
theorem off_LP25 : True := trivial
theorem off_kall : True := trivial
-- LP6
theorem again_LP6 : True := by w_top off; (try walk1); trivial
section
theorem lay_39 : True := by
  k_with "my:lam" => ((fail_if_success (have z9 := off_LP6)); (refine' kla_code (by k_asm) (by k_asm) (by k_asm) (by k_asm) (by k_asm) (by exact rfl) (by exact rfl) (by first | assumption | exact rfl) (by k_mem) (by exact codeRec_news (by k_asm) (by k_mem) (by assumption) (by assumption)) (by ktr_room) (by exact rfl) (by exact locs rfl) ?_ (by exact rfl) (by exact rfl) (by exact rfl) (by decide); k_whole; intro zg zL zh zFG zF zN zB zX zT; (try dsimp only); (try k_lift zB); (try k_fold)))
  k_with "my:out" => ((fail_if_success (have z9 := off_LP6)); (
      refine' ret_isI (by assumption) (by rfl) (by k_asm) (by k_asm) (by first | exact fun _ h => h | kcj_all)))
  k_with "exec For Name Name cons nil" => ((fail_if_success (have z9 := off_LP6)); (k_here; (rename Fr _ _ _ _ => zlF); (with_unfolding_all refine' For_invVF zlF (by exact rfl) (by exact rfl) ?_; k_whole)))
  k_with "exec For Name Call cons nil" => ((fail_if_success (have z9 := off_LP6)); (k_here; (rename Fr _ _ _ _ => zlF); (with_unfolding_all refine' For_invVF zlF (by exact rfl) (by exact rfl) ?_; k_whole)))
  k_with "call type:range" => ((fail_if_success (have z9 := off_LP6)); (k_here; refine range_G1 (by k_asm) (by k_asm) ?_; intro zrA zhA ztkA ztA zuA zvA zFA zNA zlA; (try dsimp only at zNA zlA); k_lt zlA; (try dsimp only)))
  k_with "call builtin:sorted" => ((fail_if_success (have z9 := off_LP6)); (refine stop_here ?_))
  k_with "eval Lambda" => ((fail_if_success (have z9 := off_LP6)); (refine stop_here ?_))
  trivial
theorem law_p6 (w : World) (p : Program) (loose : List Str) (mean : ExcName → Option Value) (mg mb : Str → Option Value) : ∀ (fa : Addr) (h₀ : Heap) (L : Addr) (hp : Heap) (gs : Array GenState) (dr : Drawn) (tk0 : Nat) (os0 : OsState) (Q : Flow → Shared → Prop) (E : Value → Shared → Prop) (rest : List Stmt) (u : Str → Option Value) (o1 o2 o3 o4 o5 o6 o7 : Obj) (S D cc : Addr) (n : Nat) (ys vs : List Value) (cs : List Int) (b dk wd : Int) (tb td tw : Tok),
    Below callerA h₀ [] h₀ → (hd.heap_39 w.params).In h₀ → Top p loose mean mg mb h₀ → CodeHd h₀ 41 37 → CodeHd h₀ 34 30 → CodeHd h₀ 236 234 → LawOwn w L fa E → @LT.lt Nat _ 37 L → @LT.lt Nat _ 30 L → @LT.lt Nat _ 234 L →
    Fr h₀ L hp (kstB u [(Str.ofString "dark", .int dk td), (Str.ofString "width", .int wd tw)]) → News h₀ L hp ([(S, W.listOf vs.toArray n), (D, LCg.lst ys), (L + 1 + 1 + 1 + 1 + 1 + 1 + 1, o7), (L + 1 + 1 + 1 + 1 + 1 + 1, o6), (L + 1 + 1 + 1 + 1 + 1, o5), (L + 1 + 1 + 1 + 1, o4), (L + 1 + 1 + 1, o3), (L + 1 + 1, o2), (L + 1, o1), (37, tabObj #[]), (30, tabObj #[]), (234, tabObj #[rawInt 201, rawInt 41, .ref cc])]) →
    (o2.data = .cell (some (.int b tb))) → (o3.data = .cell (some (.ref S))) → (o4.data = .cell none) → (o5.data = .cell none) → (o6.data = .cell none) → (o7.data = .cell (some (.ref D))) → (IntsAre ys cs) → (cs.length = 8) → (@LT.lt Nat _ (L + 1 + 1 + 1 + 1 + 1 + 1 + 1) (D)) → (@LT.lt Nat _ (D) (S)) → (4 ≤ b) → (b ≤ 6) → (2 ≤ dk) → (dk ≤ b - 2) → (3 ≤ wd) → (wd ≤ 1602) → (IntsAre vs (spotsL (fun e => List.getD cs (Int.toNat (2 + e)) 0) b.toNat)) → 
    (∀ (hp' : Heap) (tk' : Nat) (u' : Str → Option Value) (o1 o2 o3 o4 o5 o6 o7 : Obj) (S D cc cd : Addr) (n : Nat) (ys vs : List Value) (cs : List Int) (b dk wd : Int) (tb td tw : Tok), Fr h₀ L hp' (kstB u' [(Str.ofString "dark", .int dk td), (Str.ofString "width", .int wd tw)]) → News h₀ L hp' ([(S, W.listOf vs.toArray n), (D, LCg.lst ys), (L + 1 + 1 + 1 + 1 + 1 + 1 + 1, o7), (L + 1 + 1 + 1 + 1 + 1 + 1, o6), (L + 1 + 1 + 1 + 1 + 1, o5), (L + 1 + 1 + 1 + 1, o4), (L + 1 + 1 + 1, o3), (L + 1 + 1, o2), (L + 1, o1), (37, tabObj #[]), (30, tabObj #[]), (234, tabObj #[rawInt 201, rawInt 41, .ref cc, rawInt 203, rawInt 41, .ref cd])]) →
      (o2.data = .cell (some (.int b tb))) → (o3.data = .cell (some (.ref S))) → (o4.data = .cell none) → (o5.data = .cell none) → (o6.data = .cell none) → (o7.data = .cell (some (.ref D))) → (IntsAre ys cs) → (cs.length = 8) → (@LT.lt Nat _ (L + 1 + 1 + 1 + 1 + 1 + 1 + 1) (D)) → (@LT.lt Nat _ (D) (S)) → (4 ≤ b) → (b ≤ 6) → (2 ≤ dk) → (dk ≤ b - 2) → (3 ≤ wd) → (wd ≤ 1602) → (IntsAre vs (spotsL (fun e => List.getD cs (Int.toNat (2 + e)) 0) b.toNat)) →  LawRun w L fa rest Q E { heap := hp', gens := gs, drawn := dr, toks := tk', os := os0 }) →
    LawRun w L fa (hdS (List.tail (List.tail (List.tail (List.tail (List.tail (List.tail (lawBody w))))))) :: rest) Q E { heap := hp, gens := gs, drawn := dr, toks := tk0, os := os0 } := by
  unfold LawRun LawOwn
  dsimp only [lawBody, lawScope, hd.o_277, hdS, List.tail_cons]
  k_fill
  intro fa h₀ L hp gs dr tk0 os0 Q E rest u o1 o2 o3 o4 o5 o6 o7 S D cc n ys vs cs b dk wd tb td tw B X T ch41 ch34 ch236 hE l37 l30 l234 F N d2 d3 d4 d5 d6 d7 hcs hcl lD lS hb0 hb1 hk0 hk1 hw0 hw1 hvs hnext
  dsimp only [kstB] at F
  k_steps
  refine Stop.go ?_
  k_dflt (refine' kla_eval ?d0 ?_; (case d0 => exact rfl))
  k_dflt (refine' kla_nest ?F ?N ?T ?C ?cd ?U ?t ?n ?cl ?_; (case F => k_asm); (case N => k_asm); (case T => k_asm); (case cd => exact rfl); (case C => kn_code); (case U => k_updF); (case t => kn_triples); (case n => kn_among); (case cl => exact rfl); k_whole)
  intro fl cl ocl vfl tl ctl hl tkl Fl Nl dl1 dl2 ll1 ll2
  (try dsimp only at Nl)
  k_lt ll1
  k_lt2 ll2
  k_steps
  refine Stop.go ?_
  rename News _ _ _ _ => NA
  rename Fr _ _ _ _ => FA
  k_dflt (refine' sorted_rangeK (key := fun e => List.getD cs (Int.toNat (2 + e)) 0) FA NA ?hr hb0 hb1 rfl ?_ ?_)
  (case hr => exact (NA (_, _) (by k_mem)).1)
  · intro s' kS Dn o o' e t Q' E' F N he0 he1 hq
    refine wpAny_call ?_
    k_dflt (walk_at "my:lam")
    k_steps
    exact hq _ _ _ (by k_asm) (by k_asm)
  · intro Dn nn vs2 h9 tk9 F9 N9 l9 hv9
    dsimp only at N9 l9 ⊢
    k_lt l9
    k_steps
    dsimp only
    refine' hnext _ _ _ o1 o2 o3 o4 o5 o6 o7 S D cc cl n ys vs cs b dk wd tb td tw (fr_k (by k_asm) _ ?hf) (cb_drop (by k_asm) ?hn) d2 d3 d4 d5 d6 d7 hcs hcl lD lS hb0 hb1 hk0 hk1 hw0 hw1 hvs
    (case hf => walk_at "my:ps")
    (case hn => (try dsimp only); kcj_all)
end
theorem off_LP6 : True := trivial
-- LP0
theorem again_LP0 : True := by w_top off; (try walk1); trivial
section
section
open K0
theorem lay_40 : True := by
  k_with "exec Assign cons ListComp" => ((fail_if_success (have z9 := off_LP0)); (refine stop_here ?_))
  k_with "call type:enumerate" => ((fail_if_success (have z9 := off_LP0)); (refine stop_here ?_))
  trivial
theorem c_p0 : P0 w p loose mean mg mb fa h₀ L hp gs dr tk0 os0 Q E rest u o1 o2 o3 o4 o5 o6 o7 sl vs ns := by
  unfold P0 LawRun LawOwn
  dsimp only [lawBody, lawScope, hd.o_277, hdS, List.tail_cons]
  k_fill
  intro B X T ch41 ch34 ch236 hE l37 l30 l234 F N d1 d2 d3 d4 d5 d6 d7 hl hi hlen hnext
  dsimp only [kstB] at F
  k_steps
  refine Stop.go ?_
  refine wpAny_Assign_Name ?_ (by with_unfolding_all rfl)
  refine ListComp_E F (by with_unfolding_all rfl) (by decide) (by rfl) (by decide) (by rfl) (by rfl) (by decide) ?_
  k_steps
  refine Stop.go ?_
  rename News _ _ _ _ => N1
  rename Fr _ _ _ _ => F1
  have e0 := new_none F1
  have lt1 := fun p hp => Heap.lt_size (N1 p hp).1
  have ltL := F1.ns.lt
  refine call_enumerate_1 (N1 _ (.head _)).1 fun h2 hen hit hsz hk2 => ?_
  refine' ⟨_, _, _, _, _, 0, _, rfl, rfl, F1.keeps hk2, fun p hp => ⟨hk2 _ _ (N1 p hp).1, (N1 p hp).2⟩, .head _, rfl, rfl, ?z1, hen, hit, ?z2, ?z3, ?z4, ?z5, ?z6, ?z7, fun i ys => ∃ ns, IntsAre ys ns ∧ ns.length = i, ⟨[], IntsAre.nil, rfl⟩, ?_, ?_⟩
  (case z1 => rw [sizeLine_eq]; simp)
  (case z2 => exact Nat.succ_ne_self _)
  (case z3 => exact fun p hp => ⟨Nat.ne_of_lt (Nat.lt_succ_of_lt (lt1 p hp)), Nat.ne_of_lt (lt1 p hp)⟩)
  (case z4 => exact e0 _ (Nat.le_succ _))
  (case z5 => exact e0 _ (Nat.le_refl _))
  (case z6 => exact Nat.ne_of_lt (Nat.lt_succ_of_lt ltL))
  (case z7 => exact Nat.ne_of_lt ltL)
  · rintro i t v ys oE oI C oC D m₂ h8 tk8 E8 hv ⟨ns8, hi8, hn8⟩ hC hx1 hx2 F8 N8 off8
    dsimp only at F8 N8 ⊢
    obtain ⟨b8, tb8, rfl⟩ : ∃ b t, v = Value.int b t := by
      have hv' := List.mem_of_getElem? hv
      simp only [List.mem_cons, List.not_mem_nil, or_false] at hv'
      rcases hv' with rfl | rfl | rfl | rfl | rfl | rfl | rfl | rfl <;> exact ⟨_, _, rfl⟩
    have hpk := hi.pick (some (i : Int)) none (some 8)
    k_steps
    refine CEnd.mk (by k_asm) (by k_asm) ?_ ⟨_, hi8.append (IntsAre.cons _ _ IntsAre.nil), by rw [List.length_append, hn8]; rfl⟩
    exact fun p hp => List.mem_cons_of_mem _ hp
  · rintro D ys h8 tk8 ⟨cs, hcs, hcl⟩ F8 N8 lt8
    dsimp only at F8 N8 ⊢
    have hcl8 : cs.length = 8 := hcl
    k_lt lt8
    have hb0 : 0 ≤ Int.fmod (List.getD cs (Int.toNat 0) 0) 3 := Int.fmod_nonneg_of_pos _ (by decide)
    have hb1 : Int.fmod (List.getD cs (Int.toNat 0) 0) 3 < 3 := Int.fmod_lt_of_pos _ (by decide)
    have hb2 : 4 + Int.fmod (List.getD cs (Int.toNat 0) 0) 3 - 3 ≠ 0 := by omega
    have hk0 := Int.fmod_nonneg_of_pos (List.getD cs (Int.toNat 1) 0) (b := 4 + Int.fmod (List.getD cs (Int.toNat 0) 0) 3 - 3) (by omega)
    have hk1 := Int.fmod_lt_of_pos (List.getD cs (Int.toNat 1) 0) (b := 4 + Int.fmod (List.getD cs (Int.toNat 0) 0) 3 - 3) (by omega)
    have hw0 := Int.fmod_nonneg_of_pos ns.sum (b := 1600) (by omega)
    have hw1 := Int.fmod_lt_of_pos ns.sum (b := 1600) (by omega)
    k_steps
    rename News _ _ _ _ => N9
    rename Fr _ _ _ _ => F9
    (try dsimp only at N9)
    refine' hnext _ _ _ _ _ _ _ _ _ _ _ _ _ _ _ _ _ _ _ _ (fr_k F9 _ ?hf) (news_drop3 N9) (by assumption) (by assumption) (by assumption) (by assumption) (by assumption) (by assumption) hcs hcl8 ?f1 ?f2 ?f3 ?f4 ?f5 ?f6 ?f7 ?f8
    (case hf => walk_at "my:ps")
    all_goals omega
end
end
theorem off_LP0 : True := trivial
-- LP5
theorem again_LP5 : True := by w_top off; (try walk1); trivial
section
section
open K0
theorem lay_41 : True := by
  k_with "on:iter" => (fail_if_success (have z9 := off_LP5))
  trivial
inductive LamTab (line col : Nat) (qual : Str) (S : Addr) : Nat → Obj → List (Addr × Obj) → Prop
  | none : LamTab line col qual S 0 (tabObj #[]) []
  | one (i : Nat) (c : Addr) (oc : Obj) (vf : Array Value) (t : Tok) : oc.data = .fields vf → vf[1]? = some (.str qual t) → @LT.lt Nat _ S c → LamTab line col qual S (i + 1) (tabObj #[rawInt line, rawInt col, .ref c]) [(c, oc)]
structure SpW (key : Int → Int) (line col : Nat) (qual : Str) (S : Addr) (n : Nat) (left : Nat) (c : List Value × Nat × Obj × List (Addr × Obj)) : Prop where
  one : ∃ i, i + left = n ∧ IntsAre c.1 (spotsL key i) ∧ LamTab line col qual S i c.2.2.1 c.2.2.2
theorem lay_42 : True := by
  k_with "my:lam" => ((fail_if_success (have z9 := off_LP5)); (refine' kla_code (by k_asm) (by k_asm) (by k_asm) (by k_asm) (by k_asm) (by exact rfl) (by exact rfl) (by first | assumption | exact rfl) (by k_mem) (by exact codeRec_news (by k_asm) (by k_mem) (by assumption) (by assumption)) (by ktr_room) (by exact rfl) (by exact locs rfl) ?_ (by exact rfl) (by exact rfl) (by exact rfl) (by decide); k_whole; intro zg zL zh zFG zF zN zB zX zT; (try dsimp only); (try k_lift zB); (try k_fold)))
  k_with "my:out" => ((fail_if_success (have z9 := off_LP5)); (
      refine' ret_isI (by assumption) (by rfl) (by k_asm) (by k_asm) (by first | exact fun _ h => h | kcj_all)))
  k_with "exec For Name Name cons nil" => ((fail_if_success (have z9 := off_LP5)); (k_here; (rename Fr _ _ _ _ => zlF); (with_unfolding_all refine' For_invVF zlF (by exact rfl) (by exact rfl) ?_; k_whole)))
  k_with "exec For Name Call cons nil" => ((fail_if_success (have z9 := off_LP5)); (k_here; (rename Fr _ _ _ _ => zlF); (with_unfolding_all refine' For_invVF zlF (by exact rfl) (by exact rfl) ?_; k_whole)))
  k_with "call type:range" => ((fail_if_success (have z9 := off_LP5)); (k_here; (first | refine range_F1 (by k_asm) (by k_asm) ?_ | refine range_F2 (by k_asm) (by k_asm) ?_); intro _ _ _ _ _ _ _ _ _ _; (try dsimp only)))
  k_with "call ref" => ((fail_if_success (have z9 := off_LP5)); (refine stop_here ?_))
  k_with "eval Lambda" => ((fail_if_success (have z9 := off_LP5)); (refine stop_here ?_))
  trivial
theorem c_p5 : P5 w p loose mean mg mb fa h₀ L hp gs dr tk0 os0 Q E rest u o1 o2 o3 o4 o5 o6 o7 S D ys cs b dk wd tb td tw := by
  unfold P5 LawRun LawOwn
  dsimp only [lawBody, lawScope, hd.o_277, hdS, List.tail_cons]
  k_fill
  intro B X T ch41 ch34 ch236 hE l37 l30 l234 F N d2 d3 d4 d5 d6 d7 hcs hcl lD lS hb0 hb1 hk0 hk1 hw0 hw1 hnext
  dsimp only [kstB] at F
  k_steps
  refine Stop.go ?_
  rename Fr _ _ _ _ => FA
  rename News _ _ _ _ => NA
  have hbn : Builtin.Range.rangeSize 0 b 1 = ((b.toNat : Nat) : Int) := by rw [rangeSize_one]; split <;> omega
  refine' loop_range (σ := List Value × Nat × Obj × List (Addr × Obj)) b.toNat (fun c => (S, W.listOf c.1.toArray c.2.1) :: (D, LCg.lst ys) :: (L + 1 + 1 + 1 + 1 + 1 + 1 + 1, o7) :: (L + 1 + 1 + 1 + 1 + 1 + 1, o6) :: (L + 1 + 1 + 1 + 1 + 1, o5) :: (L + 1 + 1 + 1 + 1, o4) :: (L + 1 + 1 + 1, o3) :: (L + 1 + 1, o2) :: (L + 1, o1) :: (37, tabObj #[]) :: (30, tabObj #[]) :: (234, c.2.2.1) :: c.2.2.2) (fun c => [(Str.ofString "dark", .int dk td), (Str.ofString "width", .int wd tw)]) []
    (fun k c => SpW (fun e => List.getD cs (Int.toNat (2 + e)) 0) 201 41 (Str.ofString "law.<locals>.<lambda>") S b.toNat k c) ([], 0, tabObj #[], []) rfl (by assumption) (small_one (by omega) (by omega) (by omega) (by omega)) hbn FA NA ?hk ?hp ?turn ?done
  (case hk => walk_at "my:ps")
  (case hp => exact ⟨⟨0, Nat.zero_add _, IntsAre.nil, .none⟩⟩)
  (case turn =>
    rintro I hI i ⟨vs, n, ot, kk⟩ t uu it h tk hin ⟨j, hj, hvs, hT⟩ F8 N8 off8
    have hji : j = i := by omega
    subst hji
    dsimp only [kstB] at hvs hT F8 N8 off8 ⊢
    k_lt hI
    cases hT with
    | none =>
      k_steps
      refine Stop.go ?_
      k_dflt (refine' kla_eval ?d0 ?_; (case d0 => exact rfl))
      k_dflt (refine' kla_nest ?F ?N ?T ?C ?cd ?U ?t ?n ?cl ?_; (case F => k_asm); (case N => k_asm); (case T => k_asm); (case cd => exact rfl); (case C => kn_code); (case U => k_updF); (case t => kn_triples); (case n => kn_among); (case cl => exact rfl); k_whole)
      intro fl cl ocl vfl tl ctl hl tkl Fl Nl dl1 dl2 ll1 ll2
      (try dsimp only at Nl)
      k_lt ll1
      k_lt2 ll2
      k_steps
      refine Stop.go ?_
      rw [Int.zero_add]
      have hlen := hvs.length
      rw [spots_length] at hlen
      k_dflt (refine' Spec.useU (ir_ints w p loose mean mg mb _ _ S vs _ (fun e => List.getD cs (Int.toNat (2 + e)) 0) n _ t (fun e => 0 ≤ e ∧ e < 6) hvs ?UA (by omega) (spots_sorted _ _) (fun e he => by have := spots_mem _ _ e he; omega) (by omega) 2 _ ?hfnA ?hlamA) ?k1A ?k2A ?k3A ?k4A ?k5A ?kKA ?kdA ?kuA ?_)
      (case k1A => k_asm); (case k2A => k_asm); (case k3A => k_asm); (case k4A => k_asm); (case k5A => k_asm)
      (case UA => k_upd)
      (case hfnA => exact fun h₀ h L m X F N => FnAt.of N (.head _))
      (case hlamA =>
        rintro e te ⟨he0, he1⟩
        unfold Spec
        intro dp un gd cn cs a ccd cl outer A₀ base h₀ L m s Q E B F X N T hk hdp hun hret
        refine wpAny_call ?_
        k_dflt (walk_at "my:lam")
        k_steps
        walk_at "my:out")
      (case kKA => first | exact rfl | assumption)
      (case kdA => ktr_room)
      (case kuA => ktr_units)
      intro h9 tk9 F9 N9
      dsimp only
      k_steps
      dsimp only [LPost, LEnd]
      refine' ⟨(insV vs (((spotsL (fun e => List.getD cs (Int.toNat (2 + e)) 0) 0).map (fun e => List.getD cs (Int.toNat (2 + e)) 0)).countP (fun k => decide (k ≤ List.getD cs (Int.toNat (2 + ((0 : Nat) : Int))) 0))) (.int ((0 : Nat) : Int) t), n + 1, tabObj #[rawInt 201, rawInt 41, .ref cl], [(cl, ocl)]), _, _, _, _, rfl, by k_asm, by k_asm, ?hnA, ?hoA, ?hkA, ?hrA, ⟨⟨0 + 1, by omega, spots_step hvs t, .one _ _ _ _ _ (by assumption) (by assumption) (by omega)⟩⟩⟩
      (case hnA => (try dsimp only); kcj_all)
      (case hoA => (try dsimp only); k_all)
      (case hkA => walk_at "my:ps")
      (case hrA => walk_at "my:same")
    | one i' c' oc vf t' d1' d2' l1' =>
      have hc' : @Ne Nat c' I := off8 (c', oc) (by simp)
      k_steps
      refine Stop.go ?_
      k_dflt (refine' kla_eval ?d0 ?_; (case d0 => exact rfl))
      k_dflt (refine' kla_hit ?F ?N ?T ?C ?cd ?mem ?t ?n ?cl ?_; (case F => k_asm); (case N => k_asm); (case T => k_asm); (case cd => exact rfl); (case C => kn_code); (case mem => k_mem); (case t => kn_triples); (case n => kn_hit); (case cl => exact rfl); k_whole)
      intro fl ctl hl tkl Fl Nl ll1
      (try dsimp only at Nl)
      k_lt ll1
      k_steps
      refine Stop.go ?_
      rw [Int.zero_add]
      have hlen := hvs.length
      rw [spots_length] at hlen
      k_dflt (refine' Spec.useU (ir_ints w p loose mean mg mb _ _ S vs _ (fun e => List.getD cs (Int.toNat (2 + e)) 0) n _ t (fun e => 0 ≤ e ∧ e < 6) hvs ?UB (by omega) (spots_sorted _ _) (fun e he => by have := spots_mem _ _ e he; omega) (by omega) 2 _ ?hfnB ?hlamB) ?k1B ?k2B ?k3B ?k4B ?k5B ?kKB ?kdB ?kuB ?_)
      (case k1B => k_asm); (case k2B => k_asm); (case k3B => k_asm); (case k4B => k_asm); (case k5B => k_asm)
      (case UB => k_upd)
      (case hfnB => exact fun h₀ h L m X F N => FnAt.of N (.head _))
      (case hlamB =>
        rintro e te ⟨he0, he1⟩
        unfold Spec
        intro dp un gd cn cs a ccd cl outer A₀ base h₀ L m s Q E B F X N T hk hdp hun hret
        refine wpAny_call ?_
        k_dflt (walk_at "my:lam")
        k_steps
        walk_at "my:out")
      (case kKB => first | exact rfl | assumption)
      (case kdB => ktr_room)
      (case kuB => ktr_units)
      intro h9 tk9 F9 N9
      dsimp only
      k_steps
      dsimp only [LPost, LEnd]
      refine' ⟨(insV vs (((spotsL (fun e => List.getD cs (Int.toNat (2 + e)) 0) (i' + 1)).map (fun e => List.getD cs (Int.toNat (2 + e)) 0)).countP (fun k => decide (k ≤ List.getD cs (Int.toNat (2 + (((i' + 1) : Nat) : Int))) 0))) (.int (((i' + 1) : Nat) : Int) t), n + 1, tabObj #[rawInt 201, rawInt 41, .ref c'], [(c', oc)]), _, _, _, _, rfl, by k_asm, by k_asm, ?hnB, ?hoB, ?hkB, ?hrB, ⟨⟨(i' + 1) + 1, by omega, spots_step hvs t, .one _ _ _ _ _ (by assumption) (by assumption) (by assumption)⟩⟩⟩
      (case hnB => (try dsimp only); kcj_all)
      (case hoB => (try dsimp only); k_all)
      (case hkB => walk_at "my:ps")
      (case hrB => walk_at "my:same"))
  (case done =>
    rintro ⟨vs, n, ot, kk⟩ uu h tk ⟨j, hj, hvs, hT⟩ F8 N8
    have hjb : j = b.toNat := by omega
    subst hjb
    dsimp only [kstB] at hvs hT F8 N8 ⊢
    generalize hbb : b.toNat = bb at hvs hT
    cases hT with
    | none => omega
    | one i' c' oc vf t' d1' d2' l1' =>
      rw [← hbb] at hvs
      refine' hnext _ _ _ o1 o2 o3 o4 o5 o6 o7 S D c' n ys vs cs b dk wd tb td tw (fr_k F8 _ ?hf) (cb_drop N8 ?hn) (by assumption) (by assumption) (by assumption) (by assumption) (by assumption) (by assumption) hcs hcl ?f1 ?f2 ?f3 ?f4 ?f5 ?f6 ?f7 ?f8 hvs
      (case hf => walk_at "my:ps")
      (case hn => (try dsimp only); kcj_all)
      all_goals omega)
end
end
theorem off_LP5 : True := trivial
-- LVe
theorem again_LVe : True := by w_top off; (try walk1); trivial
section
theorem vall : ∀ v, VP v := kv.2 ⟨c_p0, c_p5, c_p7, c_p10, c_p11, c_p12, c_p14, c_p15, c_p17, c_p19, c_p20, c_p22, c_p23, c_p25, c_p27⟩
theorem law_p0 (w : World) (p : Program) (loose : List Str) (mean : ExcName → Option Value) (mg : Str → Option Value) (mb : Str → Option Value) (fa : Addr) (h₀ : Heap) (L : Addr) (hp : Heap) (gs : Array GenState) (dr : Drawn) (tk0 : Nat) (os0 : OsState) (Q : Flow → Shared → Prop) (E : Value → Shared → Prop) (rest : List Stmt) (u : Str → Option Value) (o1 : Obj) (o2 : Obj) (o3 : Obj) (o4 : Obj) (o5 : Obj) (o6 : Obj) (o7 : Obj) (sl : Addr) (vs : List Value) (ns : List Int) : P0 w p loose mean mg mb fa h₀ L hp gs dr tk0 os0 Q E rest u o1 o2 o3 o4 o5 o6 o7 sl vs ns := (vall (w, p, loose, mean, mg, mb, fa, h₀, L, hp, gs, dr, tk0, os0, Q, E, rest, u, o1, o2, o3, o4, o5, o6, o7, sl, vs, ns, K0.S, K0.D, K0.ys, K0.cs, K0.b, K0.dk, K0.wd, K0.tb, K0.td, K0.tw, K0.cc, K0.cd, K0.n, K0.NM, K0.nk, K0.nvs, K0.nums, K0.K, K0.RS, K0.nr, K0.kvs, K0.rvs, K0.prs, K0.ce, K0.OR, K0.tp0, K0.no, K0.ovs, K0.o3t, K0.o7t, K0.b3, K0.b7, K0.c3, K0.c7, K0.Wy, K0.tn, K0.ov, K0.dg, K0.twy, K0.tpy, K0.ttn, K0.tov, K0.DG, K0.nd, K0.dvs, K0.RW, K0.TL, K0.nw, K0.nt, K0.row, K0.tvs)).1
theorem law_p5 (w : World) (p : Program) (loose : List Str) (mean : ExcName → Option Value) (mg : Str → Option Value) (mb : Str → Option Value) (fa : Addr) (h₀ : Heap) (L : Addr) (hp : Heap) (gs : Array GenState) (dr : Drawn) (tk0 : Nat) (os0 : OsState) (Q : Flow → Shared → Prop) (E : Value → Shared → Prop) (rest : List Stmt) (u : Str → Option Value) (o1 : Obj) (o2 : Obj) (o3 : Obj) (o4 : Obj) (o5 : Obj) (o6 : Obj) (o7 : Obj) (S : Addr) (D : Addr) (ys : List Value) (cs : List Int) (b : Int) (dk : Int) (wd : Int) (tb : Tok) (td : Tok) (tw : Tok) : P5 w p loose mean mg mb fa h₀ L hp gs dr tk0 os0 Q E rest u o1 o2 o3 o4 o5 o6 o7 S D ys cs b dk wd tb td tw := (vall (w, p, loose, mean, mg, mb, fa, h₀, L, hp, gs, dr, tk0, os0, Q, E, rest, u, o1, o2, o3, o4, o5, o6, o7, K0.sl, K0.vs, K0.ns, S, D, ys, cs, b, dk, wd, tb, td, tw, K0.cc, K0.cd, K0.n, K0.NM, K0.nk, K0.nvs, K0.nums, K0.K, K0.RS, K0.nr, K0.kvs, K0.rvs, K0.prs, K0.ce, K0.OR, K0.tp0, K0.no, K0.ovs, K0.o3t, K0.o7t, K0.b3, K0.b7, K0.c3, K0.c7, K0.Wy, K0.tn, K0.ov, K0.dg, K0.twy, K0.tpy, K0.ttn, K0.tov, K0.DG, K0.nd, K0.dvs, K0.RW, K0.TL, K0.nw, K0.nt, K0.row, K0.tvs)).2.1
theorem law_p7 (w : World) (p : Program) (loose : List Str) (mean : ExcName → Option Value) (mg : Str → Option Value) (mb : Str → Option Value) (fa : Addr) (h₀ : Heap) (L : Addr) (hp : Heap) (gs : Array GenState) (dr : Drawn) (tk0 : Nat) (os0 : OsState) (Q : Flow → Shared → Prop) (E : Value → Shared → Prop) (rest : List Stmt) (u : Str → Option Value) (o1 : Obj) (o2 : Obj) (o3 : Obj) (o4 : Obj) (o5 : Obj) (o6 : Obj) (o7 : Obj) (S : Addr) (D : Addr) (cc : Addr) (cd : Addr) (n : Nat) (ys : List Value) (vs : List Value) (cs : List Int) (b : Int) (dk : Int) (wd : Int) (tb : Tok) (td : Tok) (tw : Tok) : P7 w p loose mean mg mb fa h₀ L hp gs dr tk0 os0 Q E rest u o1 o2 o3 o4 o5 o6 o7 S D cc cd n ys vs cs b dk wd tb td tw := (vall (w, p, loose, mean, mg, mb, fa, h₀, L, hp, gs, dr, tk0, os0, Q, E, rest, u, o1, o2, o3, o4, o5, o6, o7, K0.sl, vs, K0.ns, S, D, ys, cs, b, dk, wd, tb, td, tw, cc, cd, n, K0.NM, K0.nk, K0.nvs, K0.nums, K0.K, K0.RS, K0.nr, K0.kvs, K0.rvs, K0.prs, K0.ce, K0.OR, K0.tp0, K0.no, K0.ovs, K0.o3t, K0.o7t, K0.b3, K0.b7, K0.c3, K0.c7, K0.Wy, K0.tn, K0.ov, K0.dg, K0.twy, K0.tpy, K0.ttn, K0.tov, K0.DG, K0.nd, K0.dvs, K0.RW, K0.TL, K0.nw, K0.nt, K0.row, K0.tvs)).2.2.1
theorem law_p10 (w : World) (p : Program) (loose : List Str) (mean : ExcName → Option Value) (mg : Str → Option Value) (mb : Str → Option Value) (fa : Addr) (h₀ : Heap) (L : Addr) (hp : Heap) (gs : Array GenState) (dr : Drawn) (tk0 : Nat) (os0 : OsState) (Q : Flow → Shared → Prop) (E : Value → Shared → Prop) (rest : List Stmt) (u : Str → Option Value) (o1 : Obj) (o2 : Obj) (o3 : Obj) (o4 : Obj) (o5 : Obj) (o6 : Obj) (o7 : Obj) (NM : Addr) (cc : Addr) (cd : Addr) (nk : Nat) (nvs : List Value) (nums : List Int) (b : Int) (dk : Int) (wd : Int) (tb : Tok) (td : Tok) (tw : Tok) : P10 w p loose mean mg mb fa h₀ L hp gs dr tk0 os0 Q E rest u o1 o2 o3 o4 o5 o6 o7 NM cc cd nk nvs nums b dk wd tb td tw := (vall (w, p, loose, mean, mg, mb, fa, h₀, L, hp, gs, dr, tk0, os0, Q, E, rest, u, o1, o2, o3, o4, o5, o6, o7, K0.sl, K0.vs, K0.ns, K0.S, K0.D, K0.ys, K0.cs, b, dk, wd, tb, td, tw, cc, cd, K0.n, NM, nk, nvs, nums, K0.K, K0.RS, K0.nr, K0.kvs, K0.rvs, K0.prs, K0.ce, K0.OR, K0.tp0, K0.no, K0.ovs, K0.o3t, K0.o7t, K0.b3, K0.b7, K0.c3, K0.c7, K0.Wy, K0.tn, K0.ov, K0.dg, K0.twy, K0.tpy, K0.ttn, K0.tov, K0.DG, K0.nd, K0.dvs, K0.RW, K0.TL, K0.nw, K0.nt, K0.row, K0.tvs)).2.2.2.1
theorem law_p11 (w : World) (p : Program) (loose : List Str) (mean : ExcName → Option Value) (mg : Str → Option Value) (mb : Str → Option Value) (fa : Addr) (h₀ : Heap) (L : Addr) (hp : Heap) (gs : Array GenState) (dr : Drawn) (tk0 : Nat) (os0 : OsState) (Q : Flow → Shared → Prop) (E : Value → Shared → Prop) (rest : List Stmt) (u : Str → Option Value) (o1 : Obj) (o2 : Obj) (o3 : Obj) (o4 : Obj) (o5 : Obj) (o6 : Obj) (o7 : Obj) (K : Addr) (RS : Addr) (cc : Addr) (cd : Addr) (nk : Nat) (nr : Nat) (kvs : List Value) (rvs : List Value) (prs : List (Addr × Obj)) (nums : List Int) (b : Int) (dk : Int) (wd : Int) (tb : Tok) (td : Tok) (tw : Tok) : P11 w p loose mean mg mb fa h₀ L hp gs dr tk0 os0 Q E rest u o1 o2 o3 o4 o5 o6 o7 K RS cc cd nk nr kvs rvs prs nums b dk wd tb td tw := (vall (w, p, loose, mean, mg, mb, fa, h₀, L, hp, gs, dr, tk0, os0, Q, E, rest, u, o1, o2, o3, o4, o5, o6, o7, K0.sl, K0.vs, K0.ns, K0.S, K0.D, K0.ys, K0.cs, b, dk, wd, tb, td, tw, cc, cd, K0.n, K0.NM, nk, K0.nvs, nums, K, RS, nr, kvs, rvs, prs, K0.ce, K0.OR, K0.tp0, K0.no, K0.ovs, K0.o3t, K0.o7t, K0.b3, K0.b7, K0.c3, K0.c7, K0.Wy, K0.tn, K0.ov, K0.dg, K0.twy, K0.tpy, K0.ttn, K0.tov, K0.DG, K0.nd, K0.dvs, K0.RW, K0.TL, K0.nw, K0.nt, K0.row, K0.tvs)).2.2.2.2.1
theorem law_p12 (w : World) (p : Program) (loose : List Str) (mean : ExcName → Option Value) (mg : Str → Option Value) (mb : Str → Option Value) (fa : Addr) (h₀ : Heap) (L : Addr) (hp : Heap) (gs : Array GenState) (dr : Drawn) (tk0 : Nat) (os0 : OsState) (Q : Flow → Shared → Prop) (E : Value → Shared → Prop) (rest : List Stmt) (u : Str → Option Value) (o1 : Obj) (o2 : Obj) (o3 : Obj) (o4 : Obj) (o5 : Obj) (o6 : Obj) (o7 : Obj) (K : Addr) (RS : Addr) (cc : Addr) (cd : Addr) (ce : Addr) (nk : Nat) (nr : Nat) (kvs : List Value) (rvs : List Value) (prs : List (Addr × Obj)) (nums : List Int) (b : Int) (dk : Int) (wd : Int) (tb : Tok) (td : Tok) (tw : Tok) : P12 w p loose mean mg mb fa h₀ L hp gs dr tk0 os0 Q E rest u o1 o2 o3 o4 o5 o6 o7 K RS cc cd ce nk nr kvs rvs prs nums b dk wd tb td tw := (vall (w, p, loose, mean, mg, mb, fa, h₀, L, hp, gs, dr, tk0, os0, Q, E, rest, u, o1, o2, o3, o4, o5, o6, o7, K0.sl, K0.vs, K0.ns, K0.S, K0.D, K0.ys, K0.cs, b, dk, wd, tb, td, tw, cc, cd, K0.n, K0.NM, nk, K0.nvs, nums, K, RS, nr, kvs, rvs, prs, ce, K0.OR, K0.tp0, K0.no, K0.ovs, K0.o3t, K0.o7t, K0.b3, K0.b7, K0.c3, K0.c7, K0.Wy, K0.tn, K0.ov, K0.dg, K0.twy, K0.tpy, K0.ttn, K0.tov, K0.DG, K0.nd, K0.dvs, K0.RW, K0.TL, K0.nw, K0.nt, K0.row, K0.tvs)).2.2.2.2.2.1
theorem law_p14 (w : World) (p : Program) (loose : List Str) (mean : ExcName → Option Value) (mg : Str → Option Value) (mb : Str → Option Value) (fa : Addr) (h₀ : Heap) (L : Addr) (hp : Heap) (gs : Array GenState) (dr : Drawn) (tk0 : Nat) (os0 : OsState) (Q : Flow → Shared → Prop) (E : Value → Shared → Prop) (rest : List Stmt) (u : Str → Option Value) (o1 : Obj) (o2 : Obj) (o3 : Obj) (o4 : Obj) (o5 : Obj) (o6 : Obj) (o7 : Obj) (K : Addr) (RS : Addr) (cc : Addr) (cd : Addr) (ce : Addr) (nk : Nat) (nr : Nat) (kvs : List Value) (rvs : List Value) (prs : List (Addr × Obj)) (nums : List Int) (b : Int) (dk : Int) (wd : Int) (tb : Tok) (td : Tok) (tw : Tok) (OR : Addr) (tp0 : Tok) : P14 w p loose mean mg mb fa h₀ L hp gs dr tk0 os0 Q E rest u o1 o2 o3 o4 o5 o6 o7 K RS cc cd ce nk nr kvs rvs prs nums b dk wd tb td tw OR tp0 := (vall (w, p, loose, mean, mg, mb, fa, h₀, L, hp, gs, dr, tk0, os0, Q, E, rest, u, o1, o2, o3, o4, o5, o6, o7, K0.sl, K0.vs, K0.ns, K0.S, K0.D, K0.ys, K0.cs, b, dk, wd, tb, td, tw, cc, cd, K0.n, K0.NM, nk, K0.nvs, nums, K, RS, nr, kvs, rvs, prs, ce, OR, tp0, K0.no, K0.ovs, K0.o3t, K0.o7t, K0.b3, K0.b7, K0.c3, K0.c7, K0.Wy, K0.tn, K0.ov, K0.dg, K0.twy, K0.tpy, K0.ttn, K0.tov, K0.DG, K0.nd, K0.dvs, K0.RW, K0.TL, K0.nw, K0.nt, K0.row, K0.tvs)).2.2.2.2.2.2.1
theorem law_p15 (w : World) (p : Program) (loose : List Str) (mean : ExcName → Option Value) (mg : Str → Option Value) (mb : Str → Option Value) (fa : Addr) (h₀ : Heap) (L : Addr) (hp : Heap) (gs : Array GenState) (dr : Drawn) (tk0 : Nat) (os0 : OsState) (Q : Flow → Shared → Prop) (E : Value → Shared → Prop) (rest : List Stmt) (u : Str → Option Value) (o1 : Obj) (o2 : Obj) (o3 : Obj) (o4 : Obj) (o5 : Obj) (o6 : Obj) (o7 : Obj) (K : Addr) (RS : Addr) (cc : Addr) (cd : Addr) (ce : Addr) (nk : Nat) (nr : Nat) (kvs : List Value) (rvs : List Value) (prs : List (Addr × Obj)) (nums : List Int) (b : Int) (dk : Int) (wd : Int) (tb : Tok) (td : Tok) (tw : Tok) (OR : Addr) (no : Nat) (ovs : List Value) (o3t : Obj) (o7t : Obj) (b3 : Obj) (b7 : Obj) (c3 : Addr) (c7 : Addr) (Wy : Nat → Int) (tn : Int) (ov : Int) (dg : List Int) : P15 w p loose mean mg mb fa h₀ L hp gs dr tk0 os0 Q E rest u o1 o2 o3 o4 o5 o6 o7 K RS cc cd ce nk nr kvs rvs prs nums b dk wd tb td tw OR no ovs o3t o7t b3 b7 c3 c7 Wy tn ov dg := (vall (w, p, loose, mean, mg, mb, fa, h₀, L, hp, gs, dr, tk0, os0, Q, E, rest, u, o1, o2, o3, o4, o5, o6, o7, K0.sl, K0.vs, K0.ns, K0.S, K0.D, K0.ys, K0.cs, b, dk, wd, tb, td, tw, cc, cd, K0.n, K0.NM, nk, K0.nvs, nums, K, RS, nr, kvs, rvs, prs, ce, OR, K0.tp0, no, ovs, o3t, o7t, b3, b7, c3, c7, Wy, tn, ov, dg, K0.twy, K0.tpy, K0.ttn, K0.tov, K0.DG, K0.nd, K0.dvs, K0.RW, K0.TL, K0.nw, K0.nt, K0.row, K0.tvs)).2.2.2.2.2.2.2.1
theorem law_p17 (w : World) (p : Program) (loose : List Str) (mean : ExcName → Option Value) (mg : Str → Option Value) (mb : Str → Option Value) (fa : Addr) (h₀ : Heap) (L : Addr) (hp : Heap) (gs : Array GenState) (dr : Drawn) (tk0 : Nat) (os0 : OsState) (Q : Flow → Shared → Prop) (E : Value → Shared → Prop) (rest : List Stmt) (u : Str → Option Value) (o1 : Obj) (o2 : Obj) (o3 : Obj) (o4 : Obj) (o5 : Obj) (o6 : Obj) (o7 : Obj) (K : Addr) (RS : Addr) (cc : Addr) (cd : Addr) (ce : Addr) (nk : Nat) (nr : Nat) (kvs : List Value) (rvs : List Value) (prs : List (Addr × Obj)) (nums : List Int) (b : Int) (dk : Int) (wd : Int) (tb : Tok) (td : Tok) (tw : Tok) (OR : Addr) (no : Nat) (ovs : List Value) (o3t : Obj) (o7t : Obj) (b3 : Obj) (b7 : Obj) (c3 : Addr) (c7 : Addr) (Wy : Nat → Int) (tn : Int) (ov : Int) (dg : List Int) (twy : Tok) : P17 w p loose mean mg mb fa h₀ L hp gs dr tk0 os0 Q E rest u o1 o2 o3 o4 o5 o6 o7 K RS cc cd ce nk nr kvs rvs prs nums b dk wd tb td tw OR no ovs o3t o7t b3 b7 c3 c7 Wy tn ov dg twy := (vall (w, p, loose, mean, mg, mb, fa, h₀, L, hp, gs, dr, tk0, os0, Q, E, rest, u, o1, o2, o3, o4, o5, o6, o7, K0.sl, K0.vs, K0.ns, K0.S, K0.D, K0.ys, K0.cs, b, dk, wd, tb, td, tw, cc, cd, K0.n, K0.NM, nk, K0.nvs, nums, K, RS, nr, kvs, rvs, prs, ce, OR, K0.tp0, no, ovs, o3t, o7t, b3, b7, c3, c7, Wy, tn, ov, dg, twy, K0.tpy, K0.ttn, K0.tov, K0.DG, K0.nd, K0.dvs, K0.RW, K0.TL, K0.nw, K0.nt, K0.row, K0.tvs)).2.2.2.2.2.2.2.2.1
theorem law_p19 (w : World) (p : Program) (loose : List Str) (mean : ExcName → Option Value) (mg : Str → Option Value) (mb : Str → Option Value) (fa : Addr) (h₀ : Heap) (L : Addr) (hp : Heap) (gs : Array GenState) (dr : Drawn) (tk0 : Nat) (os0 : OsState) (Q : Flow → Shared → Prop) (E : Value → Shared → Prop) (rest : List Stmt) (u : Str → Option Value) (o1 : Obj) (o2 : Obj) (o3 : Obj) (o4 : Obj) (o5 : Obj) (o6 : Obj) (o7 : Obj) (K : Addr) (RS : Addr) (cc : Addr) (cd : Addr) (ce : Addr) (nk : Nat) (nr : Nat) (kvs : List Value) (rvs : List Value) (prs : List (Addr × Obj)) (nums : List Int) (b : Int) (dk : Int) (wd : Int) (tb : Tok) (td : Tok) (tw : Tok) (OR : Addr) (no : Nat) (ovs : List Value) (o3t : Obj) (o7t : Obj) (b3 : Obj) (b7 : Obj) (c3 : Addr) (c7 : Addr) (Wy : Nat → Int) (tn : Int) (ov : Int) (dg : List Int) (twy : Tok) (tpy : Tok) (ttn : Tok) (tov : Tok) : P19 w p loose mean mg mb fa h₀ L hp gs dr tk0 os0 Q E rest u o1 o2 o3 o4 o5 o6 o7 K RS cc cd ce nk nr kvs rvs prs nums b dk wd tb td tw OR no ovs o3t o7t b3 b7 c3 c7 Wy tn ov dg twy tpy ttn tov := (vall (w, p, loose, mean, mg, mb, fa, h₀, L, hp, gs, dr, tk0, os0, Q, E, rest, u, o1, o2, o3, o4, o5, o6, o7, K0.sl, K0.vs, K0.ns, K0.S, K0.D, K0.ys, K0.cs, b, dk, wd, tb, td, tw, cc, cd, K0.n, K0.NM, nk, K0.nvs, nums, K, RS, nr, kvs, rvs, prs, ce, OR, K0.tp0, no, ovs, o3t, o7t, b3, b7, c3, c7, Wy, tn, ov, dg, twy, tpy, ttn, tov, K0.DG, K0.nd, K0.dvs, K0.RW, K0.TL, K0.nw, K0.nt, K0.row, K0.tvs)).2.2.2.2.2.2.2.2.2.1
theorem law_p20 (w : World) (p : Program) (loose : List Str) (mean : ExcName → Option Value) (mg : Str → Option Value) (mb : Str → Option Value) (fa : Addr) (h₀ : Heap) (L : Addr) (hp : Heap) (gs : Array GenState) (dr : Drawn) (tk0 : Nat) (os0 : OsState) (Q : Flow → Shared → Prop) (E : Value → Shared → Prop) (rest : List Stmt) (u : Str → Option Value) (o1 : Obj) (o2 : Obj) (o3 : Obj) (o4 : Obj) (o5 : Obj) (o6 : Obj) (o7 : Obj) (K : Addr) (RS : Addr) (cc : Addr) (cd : Addr) (ce : Addr) (nk : Nat) (nr : Nat) (kvs : List Value) (rvs : List Value) (prs : List (Addr × Obj)) (nums : List Int) (b : Int) (dk : Int) (wd : Int) (tb : Tok) (td : Tok) (tw : Tok) (OR : Addr) (no : Nat) (ovs : List Value) (o3t : Obj) (o7t : Obj) (b3 : Obj) (b7 : Obj) (c3 : Addr) (c7 : Addr) (Wy : Nat → Int) (tn : Int) (ov : Int) (dg : List Int) (twy : Tok) (tpy : Tok) (ttn : Tok) (tov : Tok) : P20 w p loose mean mg mb fa h₀ L hp gs dr tk0 os0 Q E rest u o1 o2 o3 o4 o5 o6 o7 K RS cc cd ce nk nr kvs rvs prs nums b dk wd tb td tw OR no ovs o3t o7t b3 b7 c3 c7 Wy tn ov dg twy tpy ttn tov := (vall (w, p, loose, mean, mg, mb, fa, h₀, L, hp, gs, dr, tk0, os0, Q, E, rest, u, o1, o2, o3, o4, o5, o6, o7, K0.sl, K0.vs, K0.ns, K0.S, K0.D, K0.ys, K0.cs, b, dk, wd, tb, td, tw, cc, cd, K0.n, K0.NM, nk, K0.nvs, nums, K, RS, nr, kvs, rvs, prs, ce, OR, K0.tp0, no, ovs, o3t, o7t, b3, b7, c3, c7, Wy, tn, ov, dg, twy, tpy, ttn, tov, K0.DG, K0.nd, K0.dvs, K0.RW, K0.TL, K0.nw, K0.nt, K0.row, K0.tvs)).2.2.2.2.2.2.2.2.2.2.1
theorem law_p22 (w : World) (p : Program) (loose : List Str) (mean : ExcName → Option Value) (mg : Str → Option Value) (mb : Str → Option Value) (fa : Addr) (h₀ : Heap) (L : Addr) (hp : Heap) (gs : Array GenState) (dr : Drawn) (tk0 : Nat) (os0 : OsState) (Q : Flow → Shared → Prop) (E : Value → Shared → Prop) (rest : List Stmt) (u : Str → Option Value) (o1 : Obj) (o2 : Obj) (o3 : Obj) (o4 : Obj) (o5 : Obj) (o6 : Obj) (o7 : Obj) (K : Addr) (RS : Addr) (cc : Addr) (cd : Addr) (ce : Addr) (nk : Nat) (nr : Nat) (kvs : List Value) (rvs : List Value) (prs : List (Addr × Obj)) (nums : List Int) (b : Int) (dk : Int) (wd : Int) (tb : Tok) (td : Tok) (tw : Tok) (OR : Addr) (no : Nat) (ovs : List Value) (o3t : Obj) (o7t : Obj) (b3 : Obj) (b7 : Obj) (c3 : Addr) (c7 : Addr) (Wy : Nat → Int) (tn : Int) (ov : Int) (dg : List Int) (twy : Tok) (tpy : Tok) (ttn : Tok) (tov : Tok) : P22 w p loose mean mg mb fa h₀ L hp gs dr tk0 os0 Q E rest u o1 o2 o3 o4 o5 o6 o7 K RS cc cd ce nk nr kvs rvs prs nums b dk wd tb td tw OR no ovs o3t o7t b3 b7 c3 c7 Wy tn ov dg twy tpy ttn tov := (vall (w, p, loose, mean, mg, mb, fa, h₀, L, hp, gs, dr, tk0, os0, Q, E, rest, u, o1, o2, o3, o4, o5, o6, o7, K0.sl, K0.vs, K0.ns, K0.S, K0.D, K0.ys, K0.cs, b, dk, wd, tb, td, tw, cc, cd, K0.n, K0.NM, nk, K0.nvs, nums, K, RS, nr, kvs, rvs, prs, ce, OR, K0.tp0, no, ovs, o3t, o7t, b3, b7, c3, c7, Wy, tn, ov, dg, twy, tpy, ttn, tov, K0.DG, K0.nd, K0.dvs, K0.RW, K0.TL, K0.nw, K0.nt, K0.row, K0.tvs)).2.2.2.2.2.2.2.2.2.2.2.1
theorem law_p23 (w : World) (p : Program) (loose : List Str) (mean : ExcName → Option Value) (mg : Str → Option Value) (mb : Str → Option Value) (fa : Addr) (h₀ : Heap) (L : Addr) (hp : Heap) (gs : Array GenState) (dr : Drawn) (tk0 : Nat) (os0 : OsState) (Q : Flow → Shared → Prop) (E : Value → Shared → Prop) (rest : List Stmt) (u : Str → Option Value) (o1 : Obj) (o2 : Obj) (o3 : Obj) (o4 : Obj) (o5 : Obj) (o6 : Obj) (o7 : Obj) (K : Addr) (RS : Addr) (cc : Addr) (cd : Addr) (ce : Addr) (nk : Nat) (nr : Nat) (kvs : List Value) (rvs : List Value) (prs : List (Addr × Obj)) (nums : List Int) (b : Int) (dk : Int) (wd : Int) (tb : Tok) (td : Tok) (tw : Tok) (OR : Addr) (no : Nat) (ovs : List Value) (o3t : Obj) (o7t : Obj) (b3 : Obj) (b7 : Obj) (c3 : Addr) (c7 : Addr) (Wy : Nat → Int) (tn : Int) (ov : Int) (dg : List Int) (twy : Tok) (tpy : Tok) (ttn : Tok) (tov : Tok) : P23 w p loose mean mg mb fa h₀ L hp gs dr tk0 os0 Q E rest u o1 o2 o3 o4 o5 o6 o7 K RS cc cd ce nk nr kvs rvs prs nums b dk wd tb td tw OR no ovs o3t o7t b3 b7 c3 c7 Wy tn ov dg twy tpy ttn tov := (vall (w, p, loose, mean, mg, mb, fa, h₀, L, hp, gs, dr, tk0, os0, Q, E, rest, u, o1, o2, o3, o4, o5, o6, o7, K0.sl, K0.vs, K0.ns, K0.S, K0.D, K0.ys, K0.cs, b, dk, wd, tb, td, tw, cc, cd, K0.n, K0.NM, nk, K0.nvs, nums, K, RS, nr, kvs, rvs, prs, ce, OR, K0.tp0, no, ovs, o3t, o7t, b3, b7, c3, c7, Wy, tn, ov, dg, twy, tpy, ttn, tov, K0.DG, K0.nd, K0.dvs, K0.RW, K0.TL, K0.nw, K0.nt, K0.row, K0.tvs)).2.2.2.2.2.2.2.2.2.2.2.2.1
theorem law_p25 (w : World) (p : Program) (loose : List Str) (mean : ExcName → Option Value) (mg : Str → Option Value) (mb : Str → Option Value) (fa : Addr) (h₀ : Heap) (L : Addr) (hp : Heap) (gs : Array GenState) (dr : Drawn) (tk0 : Nat) (os0 : OsState) (Q : Flow → Shared → Prop) (E : Value → Shared → Prop) (rest : List Stmt) (u : Str → Option Value) (o1 : Obj) (o2 : Obj) (o3 : Obj) (o4 : Obj) (o5 : Obj) (o6 : Obj) (o7 : Obj) (K : Addr) (RS : Addr) (cc : Addr) (cd : Addr) (ce : Addr) (nk : Nat) (nr : Nat) (kvs : List Value) (rvs : List Value) (prs : List (Addr × Obj)) (nums : List Int) (b : Int) (dk : Int) (wd : Int) (tb : Tok) (td : Tok) (tw : Tok) (OR : Addr) (no : Nat) (ovs : List Value) (o3t : Obj) (o7t : Obj) (b3 : Obj) (b7 : Obj) (c3 : Addr) (c7 : Addr) (Wy : Nat → Int) (tn : Int) (ov : Int) (dg : List Int) (twy : Tok) (tpy : Tok) (ttn : Tok) (tov : Tok) (DG : Addr) (nd : Nat) (dvs : List Value) : P25 w p loose mean mg mb fa h₀ L hp gs dr tk0 os0 Q E rest u o1 o2 o3 o4 o5 o6 o7 K RS cc cd ce nk nr kvs rvs prs nums b dk wd tb td tw OR no ovs o3t o7t b3 b7 c3 c7 Wy tn ov dg twy tpy ttn tov DG nd dvs := (vall (w, p, loose, mean, mg, mb, fa, h₀, L, hp, gs, dr, tk0, os0, Q, E, rest, u, o1, o2, o3, o4, o5, o6, o7, K0.sl, K0.vs, K0.ns, K0.S, K0.D, K0.ys, K0.cs, b, dk, wd, tb, td, tw, cc, cd, K0.n, K0.NM, nk, K0.nvs, nums, K, RS, nr, kvs, rvs, prs, ce, OR, K0.tp0, no, ovs, o3t, o7t, b3, b7, c3, c7, Wy, tn, ov, dg, twy, tpy, ttn, tov, DG, nd, dvs, K0.RW, K0.TL, K0.nw, K0.nt, K0.row, K0.tvs)).2.2.2.2.2.2.2.2.2.2.2.2.2.1
theorem law_p27 (w : World) (p : Program) (loose : List Str) (mean : ExcName → Option Value) (mg : Str → Option Value) (mb : Str → Option Value) (fa : Addr) (h₀ : Heap) (L : Addr) (hp : Heap) (gs : Array GenState) (dr : Drawn) (tk0 : Nat) (os0 : OsState) (Q : Flow → Shared → Prop) (E : Value → Shared → Prop) (rest : List Stmt) (u : Str → Option Value) (o1 : Obj) (o2 : Obj) (o3 : Obj) (o4 : Obj) (o5 : Obj) (o6 : Obj) (o7 : Obj) (K : Addr) (RS : Addr) (cc : Addr) (cd : Addr) (ce : Addr) (nk : Nat) (nr : Nat) (kvs : List Value) (rvs : List Value) (prs : List (Addr × Obj)) (nums : List Int) (b : Int) (dk : Int) (wd : Int) (tb : Tok) (td : Tok) (tw : Tok) (OR : Addr) (no : Nat) (ovs : List Value) (o3t : Obj) (o7t : Obj) (b3 : Obj) (b7 : Obj) (c3 : Addr) (c7 : Addr) (Wy : Nat → Int) (tn : Int) (ov : Int) (dg : List Int) (twy : Tok) (tpy : Tok) (ttn : Tok) (tov : Tok) (DG : Addr) (nd : Nat) (dvs : List Value) (RW : Addr) (TL : Addr) (nw : Nat) (nt : Nat) (row : List Value) (tvs : List Value) : P27 w p loose mean mg mb fa h₀ L hp gs dr tk0 os0 Q E rest u o1 o2 o3 o4 o5 o6 o7 K RS cc cd ce nk nr kvs rvs prs nums b dk wd tb td tw OR no ovs o3t o7t b3 b7 c3 c7 Wy tn ov dg twy tpy ttn tov DG nd dvs RW TL nw nt row tvs := (vall (w, p, loose, mean, mg, mb, fa, h₀, L, hp, gs, dr, tk0, os0, Q, E, rest, u, o1, o2, o3, o4, o5, o6, o7, K0.sl, K0.vs, K0.ns, K0.S, K0.D, K0.ys, K0.cs, b, dk, wd, tb, td, tw, cc, cd, K0.n, K0.NM, nk, K0.nvs, nums, K, RS, nr, kvs, rvs, prs, ce, OR, K0.tp0, no, ovs, o3t, o7t, b3, b7, c3, c7, Wy, tn, ov, dg, twy, tpy, ttn, tov, DG, nd, dvs, RW, TL, nw, nt, row, tvs)).2.2.2.2.2.2.2.2.2.2.2.2.2.2
end
-- LZ1
theorem again_LZ1 : True := by w_top off; (try walk1); trivial
section
theorem law_list (w : World) : lawBody w = [hdS (lawBody w), hdS (List.tail (lawBody w)), hdS (List.tail (List.tail (lawBody w))), hdS (List.tail (List.tail (List.tail (lawBody w)))), hdS (List.tail (List.tail (List.tail (List.tail (lawBody w))))), hdS (List.tail (List.tail (List.tail (List.tail (List.tail (lawBody w)))))), hdS (List.tail (List.tail (List.tail (List.tail (List.tail (List.tail (lawBody w))))))), hdS (List.tail (List.tail (List.tail (List.tail (List.tail (List.tail (List.tail (lawBody w)))))))), hdS (List.tail (List.tail (List.tail (List.tail (List.tail (List.tail (List.tail (List.tail (lawBody w))))))))), hdS (List.tail (List.tail (List.tail (List.tail (List.tail (List.tail (List.tail (List.tail (List.tail (lawBody w)))))))))), hdS (List.tail (List.tail (List.tail (List.tail (List.tail (List.tail (List.tail (List.tail (List.tail (List.tail (lawBody w))))))))))), hdS (List.tail (List.tail (List.tail (List.tail (List.tail (List.tail (List.tail (List.tail (List.tail (List.tail (List.tail (lawBody w)))))))))))), hdS (List.tail (List.tail (List.tail (List.tail (List.tail (List.tail (List.tail (List.tail (List.tail (List.tail (List.tail (List.tail (lawBody w))))))))))))), hdS (List.tail (List.tail (List.tail (List.tail (List.tail (List.tail (List.tail (List.tail (List.tail (List.tail (List.tail (List.tail (List.tail (lawBody w)))))))))))))), hdS (List.tail (List.tail (List.tail (List.tail (List.tail (List.tail (List.tail (List.tail (List.tail (List.tail (List.tail (List.tail (List.tail (List.tail (lawBody w))))))))))))))), hdS (List.tail (List.tail (List.tail (List.tail (List.tail (List.tail (List.tail (List.tail (List.tail (List.tail (List.tail (List.tail (List.tail (List.tail (List.tail (lawBody w)))))))))))))))), hdS (List.tail (List.tail (List.tail (List.tail (List.tail (List.tail (List.tail (List.tail (List.tail (List.tail (List.tail (List.tail (List.tail (List.tail (List.tail (List.tail (lawBody w))))))))))))))))), hdS (List.tail (List.tail (List.tail (List.tail (List.tail (List.tail (List.tail (List.tail (List.tail (List.tail (List.tail (List.tail (List.tail (List.tail (List.tail (List.tail (List.tail (lawBody w)))))))))))))))))), hdS (List.tail (List.tail (List.tail (List.tail (List.tail (List.tail (List.tail (List.tail (List.tail (List.tail (List.tail (List.tail (List.tail (List.tail (List.tail (List.tail (List.tail (List.tail (lawBody w))))))))))))))))))), hdS (List.tail (List.tail (List.tail (List.tail (List.tail (List.tail (List.tail (List.tail (List.tail (List.tail (List.tail (List.tail (List.tail (List.tail (List.tail (List.tail (List.tail (List.tail (List.tail (lawBody w)))))))))))))))))))), hdS (List.tail (List.tail (List.tail (List.tail (List.tail (List.tail (List.tail (List.tail (List.tail (List.tail (List.tail (List.tail (List.tail (List.tail (List.tail (List.tail (List.tail (List.tail (List.tail (List.tail (lawBody w))))))))))))))))))))), hdS (List.tail (List.tail (List.tail (List.tail (List.tail (List.tail (List.tail (List.tail (List.tail (List.tail (List.tail (List.tail (List.tail (List.tail (List.tail (List.tail (List.tail (List.tail (List.tail (List.tail (List.tail (lawBody w)))))))))))))))))))))), hdS (List.tail (List.tail (List.tail (List.tail (List.tail (List.tail (List.tail (List.tail (List.tail (List.tail (List.tail (List.tail (List.tail (List.tail (List.tail (List.tail (List.tail (List.tail (List.tail (List.tail (List.tail (List.tail (lawBody w))))))))))))))))))))))), hdS (List.tail (List.tail (List.tail (List.tail (List.tail (List.tail (List.tail (List.tail (List.tail (List.tail (List.tail (List.tail (List.tail (List.tail (List.tail (List.tail (List.tail (List.tail (List.tail (List.tail (List.tail (List.tail (List.tail (lawBody w)))))))))))))))))))))))), hdS (List.tail (List.tail (List.tail (List.tail (List.tail (List.tail (List.tail (List.tail (List.tail (List.tail (List.tail (List.tail (List.tail (List.tail (List.tail (List.tail (List.tail (List.tail (List.tail (List.tail (List.tail (List.tail (List.tail (List.tail (lawBody w))))))))))))))))))))))))), hdS (List.tail (List.tail (List.tail (List.tail (List.tail (List.tail (List.tail (List.tail (List.tail (List.tail (List.tail (List.tail (List.tail (List.tail (List.tail (List.tail (List.tail (List.tail (List.tail (List.tail (List.tail (List.tail (List.tail (List.tail (List.tail (lawBody w)))))))))))))))))))))))))), hdS (List.tail (List.tail (List.tail (List.tail (List.tail (List.tail (List.tail (List.tail (List.tail (List.tail (List.tail (List.tail (List.tail (List.tail (List.tail (List.tail (List.tail (List.tail (List.tail (List.tail (List.tail (List.tail (List.tail (List.tail (List.tail (List.tail (lawBody w))))))))))))))))))))))))))), hdS (List.tail (List.tail (List.tail (List.tail (List.tail (List.tail (List.tail (List.tail (List.tail (List.tail (List.tail (List.tail (List.tail (List.tail (List.tail (List.tail (List.tail (List.tail (List.tail (List.tail (List.tail (List.tail (List.tail (List.tail (List.tail (List.tail (List.tail (lawBody w)))))))))))))))))))))))))))), hdS (List.tail (List.tail (List.tail (List.tail (List.tail (List.tail (List.tail (List.tail (List.tail (List.tail (List.tail (List.tail (List.tail (List.tail (List.tail (List.tail (List.tail (List.tail (List.tail (List.tail (List.tail (List.tail (List.tail (List.tail (List.tail (List.tail (List.tail (List.tail (lawBody w)))))))))))))))))))))))))))))] := by
  dsimp only [lawBody, hd.o_277, hdS, List.tail_cons]
theorem law_p28 (w : World) (L fa : Addr) (hp : Heap) (gs : Array GenState) (dr : Drawn) (tk0 : Nat) (os0 : OsState) (Q : Flow → Shared → Prop) (E : Value → Shared → Prop) (rest : List Stmt) (h₀ : Heap) (u : Str → Option Value) :
    (hd.heap_39 w.params).In h₀ → Fr h₀ L hp (kstB u []) → Q (.ret (.bool true)) { heap := hp, gens := gs, drawn := dr, toks := tk0, os := os0 } → LawRun w L fa (hdS (List.tail (List.tail (List.tail (List.tail (List.tail (List.tail (List.tail (List.tail (List.tail (List.tail (List.tail (List.tail (List.tail (List.tail (List.tail (List.tail (List.tail (List.tail (List.tail (List.tail (List.tail (List.tail (List.tail (List.tail (List.tail (List.tail (List.tail (List.tail (lawBody w))))))))))))))))))))))))))))) :: rest) Q E { heap := hp, gens := gs, drawn := dr, toks := tk0, os := os0 } := by
  unfold LawRun
  dsimp only [lawBody, lawScope, hd.o_277, hdS, List.tail_cons]
  k_fill
  intro X F hq
  k_steps
  exact hq
theorem law_all (w : World) (p : Program) (loose : List Str) (mean : ExcName → Option Value) (mg mb : Str → Option Value) (hip : importsNone p = true) (fa : Addr) (h₀ : Heap) (L : Addr) (hp : Heap) (gs : Array GenState) (dr : Drawn) (tk0 : Nat) (os0 : OsState) (Q : Flow → Shared → Prop) (E : Value → Shared → Prop) (u : Str → Option Value) (o1 o2 o3 o4 o5 o6 o7 : Obj) (sl : Addr) (vs : List Value) (ns : List Int)
    (B : Below callerA h₀ [] h₀) (X : (hd.heap_39 w.params).In h₀) (T : Top p loose mean mg mb h₀) (ch41 : CodeHd h₀ 41 37) (ch34 : CodeHd h₀ 34 30) (ch236 : CodeHd h₀ 236 234) (hE : LawOwn w L fa E) (l37 : @LT.lt Nat _ 37 L) (l30 : @LT.lt Nat _ 30 L) (l234 : @LT.lt Nat _ 234 L)
    (F : Fr h₀ L hp (kstB u [])) (N : News h₀ L hp ([(L + 1 + 1 + 1 + 1 + 1 + 1 + 1, o7), (L + 1 + 1 + 1 + 1 + 1 + 1, o6), (L + 1 + 1 + 1 + 1 + 1, o5), (L + 1 + 1 + 1 + 1, o4), (L + 1 + 1 + 1, o3), (L + 1 + 1, o2), (L + 1, o1), (37, tabObj #[]), (30, tabObj #[]), (234, tabObj #[])])) (d1 : o1.data = .cell (some (.ref sl))) (d2 : o2.data = .cell none) (d3 : o3.data = .cell none) (d4 : o4.data = .cell none) (d5 : o5.data = .cell none) (d6 : o6.data = .cell none) (d7 : o7.data = .cell none) (hl : h₀.IsList sl vs.toArray) (hi : IntsAre vs ns) (hlen : ns.length ≤ 63)
    (hret : ∀ (hp' : Heap) (tk' : Nat) (m' : Str → Option Value), Fr h₀ L hp' m' → (∃ p3 p7 p2, News h₀ L hp' [(37, tabObj p7), (30, tabObj p3), (234, tabObj p2)]) → Q (.ret (.bool true)) { heap := hp', gens := gs, drawn := dr, toks := tk', os := os0 }) :
    LawRun w L fa (lawBody w) Q E { heap := hp, gens := gs, drawn := dr, toks := tk0, os := os0 } := by
  rw [law_list]
  refine law_p0 w p loose mean mg mb fa h₀ L hp gs dr tk0 os0 Q E _ u o1 o2 o3 o4 o5 o6 o7 sl vs ns B X T ch41 ch34 ch236 hE l37 l30 l234 F N d1 d2 d3 d4 d5 d6 d7 hl hi hlen ?_
  clear F N
  intro hp tk0 u o1 o2 o3 o4 o5 o6 o7 S D ys cs b dk wd tb td tw F N d2 d3 d4 d5 d6 d7 hcs hcl lD lS hb0 hb1 hk0 hk1 hw0 hw1
  refine law_p5 w p loose mean mg mb fa h₀ L hp gs dr tk0 os0 Q E _ u o1 o2 o3 o4 o5 o6 o7 S D ys cs b dk wd tb td tw B X T ch41 ch34 ch236 hE l37 l30 l234 F N d2 d3 d4 d5 d6 d7 hcs hcl lD lS hb0 hb1 hk0 hk1 hw0 hw1 ?_
  clear F N
  intro hp tk0 u o1 o2 o3 o4 o5 o6 o7 S D cc n ys vs cs b dk wd tb td tw F N d2 d3 d4 d5 d6 d7 hcs hcl lD lS hb0 hb1 hk0 hk1 hw0 hw1 hvs
  refine law_p6 w p loose mean mg mb fa h₀ L hp gs dr tk0 os0 Q E _ u o1 o2 o3 o4 o5 o6 o7 S D cc n ys vs cs b dk wd tb td tw B X T ch41 ch34 ch236 hE l37 l30 l234 F N d2 d3 d4 d5 d6 d7 hcs hcl lD lS hb0 hb1 hk0 hk1 hw0 hw1 hvs ?_
  clear F N
  intro hp tk0 u o1 o2 o3 o4 o5 o6 o7 S D cc cd n ys vs cs b dk wd tb td tw F N d2 d3 d4 d5 d6 d7 hcs hcl lD lS hb0 hb1 hk0 hk1 hw0 hw1 hvs
  refine law_p7 w p loose mean mg mb fa h₀ L hp gs dr tk0 os0 Q E _ u o1 o2 o3 o4 o5 o6 o7 S D cc cd n ys vs cs b dk wd tb td tw B X T ch41 ch34 ch236 hE l37 l30 l234 F N d2 d3 d4 d5 d6 d7 hcs hcl lD lS hb0 hb1 hk0 hk1 hw0 hw1 hvs ?_
  clear F N
  intro hp tk0 u o1 o2 o3 o4 o5 o6 o7 NM cc cd nk nvs nums b dk wd tb td tw F N d2 d5 d6 hb0 hb1 hk0 hk1 hw0 hw1 d4 lNM hnv hNO
  refine law_p10 w p loose mean mg mb fa h₀ L hp gs dr tk0 os0 Q E _ u o1 o2 o3 o4 o5 o6 o7 NM cc cd nk nvs nums b dk wd tb td tw B X T ch41 ch34 ch236 hE l37 l30 l234 F N d2 d5 d6 hb0 hb1 hk0 hk1 hw0 hw1 d4 lNM hnv hNO ?_
  clear F N
  intro hp tk0 u o1 o2 o3 o4 o5 o6 o7 K RS cc cd nk nr kvs rvs prs nums b dk wd tb td tw F N d2 d6 hb0 hb1 hk0 hk1 hw0 hw1 lK lRS hpr hNO hK hR
  refine law_p11 w p loose mean mg mb fa h₀ L hp gs dr tk0 os0 Q E _ u o1 o2 o3 o4 o5 o6 o7 K RS cc cd nk nr kvs rvs prs nums b dk wd tb td tw B X T ch41 ch34 ch236 hE l37 l30 l234 F N d2 d6 hb0 hb1 hk0 hk1 hw0 hw1 lK lRS hpr hNO hK hR ?_
  clear F N
  intro hp tk0 u o1 o2 o3 o4 o5 o6 o7 K RS cc cd ce nk nr kvs rvs prs nums b dk wd tb td tw F N d2 d6 hb0 hb1 hk0 hk1 hw0 hw1 lK lRS hpr hNO hK hR
  refine law_p12 w p loose mean mg mb fa h₀ L hp gs dr tk0 os0 Q E _ u o1 o2 o3 o4 o5 o6 o7 K RS cc cd ce nk nr kvs rvs prs nums b dk wd tb td tw B X T ch41 ch34 ch236 hE l37 l30 l234 F N d2 d6 hb0 hb1 hk0 hk1 hw0 hw1 lK lRS hpr hNO hK hR ?_
  clear F N
  intro hp tk0 u o1 o2 o3 o4 o5 o6 o7 K RS cc cd ce nk nr kvs rvs prs nums b dk wd tb td tw OR tp0 F N d2 d6 hb0 hb1 hk0 hk1 hw0 hw1 lK lRS hpr hNO hK hR lOR hprO
  refine law_p14 w p loose mean mg mb fa h₀ L hp gs dr tk0 os0 Q E _ u o1 o2 o3 o4 o5 o6 o7 K RS cc cd ce nk nr kvs rvs prs nums b dk wd tb td tw OR tp0 hip B X T ch41 ch34 ch236 hE l37 l30 l234 F N d2 d6 hb0 hb1 hk0 hk1 hw0 hw1 lK lRS hpr hNO hK hR lOR hprO ?_
  clear F N
  intro hp tk0 u o1 o2 o3 o4 o5 o6 o7 K RS cc cd ce nk nr kvs rvs prs nums b dk wd tb td tw OR no ovs o3t o7t b3 b7 c3 c7 F N d2 d6 hb0 hb1 hk0 hk1 hw0 hw1 lK lRS hpr hNO hK hR lOR hprO hov hTb hk3 hk7 hO3 hO7
  obtain ⟨Wy, tn, ov, G⟩ := gauss_all hb0 hb1 hk0 hk1 hw0 hw1
  refine law_p15 w p loose mean mg mb fa h₀ L hp gs dr tk0 os0 Q E _ u o1 o2 o3 o4 o5 o6 o7 K RS cc cd ce nk nr kvs rvs prs nums b dk wd tb td tw OR no ovs o3t o7t b3 b7 c3 c7 Wy tn ov _ hip B X T ch41 ch34 ch236 hE l37 l30 l234 F N d2 d6 hb0 hb1 hk0 hk1 hw0 hw1 lK lRS hpr hNO hK hR lOR hprO hov hTb hk3 hk7 hO3 hO7 G ?_
  clear F N
  intro hp tk0 u o1 o2 o3 o4 o5 o6 o7 K RS cc cd ce nk nr kvs rvs prs nums b dk wd tb td tw OR no ovs o3t o7t b3 b7 c3 c7 Wy tn ov dg twy F N d2 d6 hb0 hb1 hk0 hk1 hw0 hw1 lK lRS hpr hNO hK hR lOR hprO hov hTb hk3 hk7 hO3 hO7 G
  refine law_p17 w p loose mean mg mb fa h₀ L hp gs dr tk0 os0 Q E _ u o1 o2 o3 o4 o5 o6 o7 K RS cc cd ce nk nr kvs rvs prs nums b dk wd tb td tw OR no ovs o3t o7t b3 b7 c3 c7 Wy tn ov dg twy hip B X T ch41 ch34 ch236 hE l37 l30 l234 F N d2 d6 hb0 hb1 hk0 hk1 hw0 hw1 lK lRS hpr hNO hK hR lOR hprO hov hTb hk3 hk7 hO3 hO7 G ?_
  clear F N
  intro hp tk0 u o1 o2 o3 o4 o5 o6 o7 K RS cc cd ce nk nr kvs rvs prs nums b dk wd tb td tw OR no ovs o3t o7t b3 b7 c3 c7 Wy tn ov dg twy tpy ttn tov F N d2 d6 hb0 hb1 hk0 hk1 hw0 hw1 lK lRS hpr hNO hK hR lOR hprO hov hTb hk3 hk7 hO3 hO7 G
  refine law_p19 w p loose mean mg mb fa h₀ L hp gs dr tk0 os0 Q E _ u o1 o2 o3 o4 o5 o6 o7 K RS cc cd ce nk nr kvs rvs prs nums b dk wd tb td tw OR no ovs o3t o7t b3 b7 c3 c7 Wy tn ov dg twy tpy ttn tov B X T ch41 ch34 ch236 hE l37 l30 l234 F N d2 d6 hb0 hb1 hk0 hk1 hw0 hw1 lK lRS hpr hNO hK hR lOR hprO hov hTb hk3 hk7 hO3 hO7 G ?_
  clear F N
  intro hp tk0 u o1 o2 o3 o4 o5 o6 o7 K RS cc cd ce nk nr kvs rvs prs nums b dk wd tb td tw OR no ovs o3t o7t b3 b7 c3 c7 Wy tn ov dg twy tpy ttn tov F N d2 d6 hb0 hb1 hk0 hk1 hw0 hw1 lK lRS hpr hNO hK hR lOR hprO hov hTb hk3 hk7 hO3 hO7 G
  refine law_p20 w p loose mean mg mb fa h₀ L hp gs dr tk0 os0 Q E _ u o1 o2 o3 o4 o5 o6 o7 K RS cc cd ce nk nr kvs rvs prs nums b dk wd tb td tw OR no ovs o3t o7t b3 b7 c3 c7 Wy tn ov dg twy tpy ttn tov hip B X T ch41 ch34 ch236 hE l37 l30 l234 F N d2 d6 hb0 hb1 hk0 hk1 hw0 hw1 lK lRS hpr hNO hK hR lOR hprO hov hTb hk3 hk7 hO3 hO7 G ?_
  clear F N
  intro hp tk0 u o1 o2 o3 o4 o5 o6 o7 K RS cc cd ce nk nr kvs rvs prs nums b dk wd tb td tw OR no ovs o3t o7t b3 b7 c3 c7 Wy tn ov dg twy tpy ttn tov F N d2 d6 hb0 hb1 hk0 hk1 hw0 hw1 lK lRS hpr hNO hK hR lOR hprO hov hTb hk3 hk7 hO3 hO7 G
  refine law_p22 w p loose mean mg mb fa h₀ L hp gs dr tk0 os0 Q E _ u o1 o2 o3 o4 o5 o6 o7 K RS cc cd ce nk nr kvs rvs prs nums b dk wd tb td tw OR no ovs o3t o7t b3 b7 c3 c7 Wy tn ov dg twy tpy ttn tov hip B X T ch41 ch34 ch236 hE l37 l30 l234 F N d2 d6 hb0 hb1 hk0 hk1 hw0 hw1 lK lRS hpr hNO hK hR lOR hprO hov hTb hk3 hk7 hO3 hO7 G ?_
  clear F N
  intro hp tk0 u o1 o2 o3 o4 o5 o6 o7 K RS cc cd ce nk nr kvs rvs prs nums b dk wd tb td tw OR no ovs o3t o7t b3 b7 c3 c7 Wy tn ov dg twy tpy ttn tov F N d2 d6 hb0 hb1 hk0 hk1 hw0 hw1 lK lRS hpr hNO hK hR lOR hprO hov hTb hk3 hk7 hO3 hO7 G
  refine law_p23 w p loose mean mg mb fa h₀ L hp gs dr tk0 os0 Q E _ u o1 o2 o3 o4 o5 o6 o7 K RS cc cd ce nk nr kvs rvs prs nums b dk wd tb td tw OR no ovs o3t o7t b3 b7 c3 c7 Wy tn ov dg twy tpy ttn tov B X T ch41 ch34 ch236 hE l37 l30 l234 F N d2 d6 hb0 hb1 hk0 hk1 hw0 hw1 lK lRS hpr hNO hK hR lOR hprO hov hTb hk3 hk7 hO3 hO7 G ?_
  clear F N
  intro hp tk0 u o1 o2 o3 o4 o5 o6 o7 K RS cc cd ce nk nr kvs rvs prs nums b dk wd tb td tw OR no ovs o3t o7t b3 b7 c3 c7 Wy tn ov dg twy tpy ttn tov DG nd dvs F N d2 d6 hb0 hb1 hk0 hk1 hw0 hw1 lK lRS hpr hNO hK hR lOR hprO hov G hdv lDG g3 g7
  refine law_p25 w p loose mean mg mb fa h₀ L hp gs dr tk0 os0 Q E _ u o1 o2 o3 o4 o5 o6 o7 K RS cc cd ce nk nr kvs rvs prs nums b dk wd tb td tw OR no ovs o3t o7t b3 b7 c3 c7 Wy tn ov dg twy tpy ttn tov DG nd dvs B X T ch41 ch34 ch236 hE l37 l30 l234 F N d2 d6 hb0 hb1 hk0 hk1 hw0 hw1 lK lRS hpr hNO hK hR lOR hprO hov G hdv lDG g3 g7 ?_
  clear F N
  intro hp tk0 u o1 o2 o3 o4 o5 o6 o7 K RS cc cd ce nk nr kvs rvs prs nums b dk wd tb td tw OR no ovs o3t o7t b3 b7 c3 c7 Wy tn ov dg twy tpy ttn tov DG nd dvs RW TL nw nt row tvs F N d2 d6 hb0 hb1 hk0 hk1 hw0 hw1 lK lRS hpr hNO hK hR lOR hprO hov G hdv lDG g3 g7 lRW lTL lWT hrow hrt htv
  have SV : SieveOk b ((restsOf b dk nums (ringsOf b dk)).map (·.2)) dg (ordersOf b dk) := by rw [G.dgo]; exact sieve_ok hNO hb0 hb1 hk0 hk1
  refine law_p27 w p loose mean mg mb fa h₀ L hp gs dr tk0 os0 Q E _ u o1 o2 o3 o4 o5 o6 o7 K RS cc cd ce nk nr kvs rvs prs nums b dk wd tb td tw OR no ovs o3t o7t b3 b7 c3 c7 Wy tn ov dg twy tpy ttn tov DG nd dvs RW TL nw nt row tvs B X T ch41 ch34 ch236 hE l37 l30 l234 F N d2 d6 hb0 hb1 hk0 hk1 hw0 hw1 lK lRS hpr hNO hK hR lOR hprO hov G hdv lDG g3 g7 lRW lTL lWT hrow hrt htv SV ?_
  clear F N
  intro hp tk0 u o3t o7t cc cd ce F N g3 g7
  exact law_p28 w L fa hp gs dr tk0 os0 Q E [] h₀ u X F (hret hp tk0 _ F (by
    obtain ⟨p3, rfl⟩ := g3
    obtain ⟨p7, rfl⟩ := g7
    exact ⟨p3, p7, _, fun q hq => N q (by
      rcases List.mem_cons.mp hq with rfl | hq
      · exact .tail _ (.head _)
      · rcases List.mem_cons.mp hq with rfl | hq
        · exact .head _
        · rcases List.mem_cons.mp hq with rfl | hq
          · exact .tail _ (.tail _ (.head _))
          · cases hq)⟩))
end
-- LZ1b
theorem again_LZ1b : True := by w_top off; (try walk1); trivial
section
section
variable {p : Program} {loose : List Str} {mean : ExcName → Option Value} {mg mb : Str → Option Value} {h₁ h : Heap} {tabs : List (Addr × Addr)}
theorem ghost_seer (hT : TabsAt tabs h₁) (x : h₁.NoSeer) : (ghostOf h₁ tabs).NoSeer where
  statics := let ⟨mc, a, r⟩ := x.statics; ⟨mc, ghost_ns hT a, r⟩
  mods := let ⟨mm, a, r⟩ := x.mods; ⟨mm, ghost_ns hT a, r⟩
  imp := let ⟨mm, a, r⟩ := x.imp; ⟨mm, ghost_ns hT a, r⟩
  main := let ⟨m1, bm, ob, a, b, c, d, e⟩ := x.main; ⟨m1, bm, ob, ghost_ns hT a, b, ghost_get hT c (fun q => by rw [q] at d; cases d), d, e⟩
noncomputable def quietProg : Program := { (default : Program) with main := { (default : Module) with body := [] } }
theorem quiet_top (T : Top topProg loose mean mg mb h) (x : h.NoSeer) : Top quietProg loose mean mg mb h where
  g := T.g
  b := T.b
  nolimit := T.nolimit
  nodigits := T.nodigits
  fn := fun d hd => absurd (show d ∈ ([] : List DefRec) from hd) List.not_mem_nil
  own := fun o ho => absurd (show o ∈ ([] : List OwnSpec) from ho) List.not_mem_nil
  const := fun x d e => by cases (show (none : Option PyData) = some d from e)
  free := fun x h1 h2 h3 h4 h5 => T.free x h1 h2 h3 h4 h5
  builtins := T.builtins
  tab := fun d hd => absurd (show d ∈ ([] : List DefRec) from hd) List.not_mem_nil
  bmain := T.bmain
  seer := fun _ => x
end
end
-- LZ2
theorem again_LZ2 : True := by w_top off; (try walk1); trivial
section
set_option maxHeartbeats 8000000 in
theorem t_law : PySem.Challenge.rw_tl0033_01.Holds := hd rfl rfl rfl (by
  k_go0
  rename Below _ _ _ _ => BB
  rename Top _ _ _ _ _ _ => TT
  rename Frag.In _ _ => XX
  rename Fr _ _ _ _ => FF
  rename News _ _ _ _ => NN
  rename Ground _ _ _ _ _ _ _ _ _ => GG
  rename TabsAt _ _ => hTabs
  have hns := ghost_seer hTabs (GG.T.seer (by first | rfl | decide +kernel))
  k_dflt (refine' law_all _ _ _ _ _ _ ?hip _ _ _ _ _ _ _ _ _ _ _ _ _ _ _ _ _ _ _ _ _ BB XX (quiet_top TT hns) ?c41 ?c34 ?c236 ?hE ?l37 ?l30 ?l234 FF NN ?d1 ?d2 ?d3 ?d4 ?d5 ?d6 ?d7 ?hl ?hi ?hlen ?hret)
  (case c41 => assumption)
  (case c34 => assumption)
  (case c236 => assumption)
  (case l37 => omega)
  (case l30 => omega)
  (case l234 => omega)
  (case hl => assumption)
  (case hi => assumption)
  (case hlen => omega)
  (case hip => rfl)
  (case hE => (show PassesOwn _ _ _ _); passes_own)
  (case d1 => assumption)
  (case d2 => assumption)
  (case d3 => assumption)
  (case d4 => assumption)
  (case d5 => assumption)
  (case d6 => assumption)
  (case d7 => assumption)
  (case hret =>
    rintro hp' tk' m' F' ⟨p3, p7, p2, N9⟩
    refine And.intro ?_ ⟨GrownAt.of N9 (.head _), GrownAt.of N9 (.tail _ (.head _)), GrownAt.of N9 (.tail _ (.tail _ (.head _))), True.intro⟩
    wrow_close))
end
end Mine
set_option maxRecDepth 100000 in
set_option maxHeartbeats 8000000 in
theorem PySem.Challenge.cw_tl0033_01_holds : PySem.Challenge.rw_tl0033_01.Holds := by
  exact Mine.t_law
